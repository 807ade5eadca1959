import JvmDerived
import JvmDerived.Pilot.@@N@@Statement
import JvmDerived.Pilot.@@N@@Code
set_option linter.unusedVariables false
set_option linter.unusedSimpArgs false
/- laws to paste: Road.backV (cut by pick.py; bodies as the Statement names them) -/
namespace Jvm.Pilot.@@N@@
namespace StrChars
open Jvm Sem ClassFile Op Lib Jvm.Stand Jvm.Free.XT Jvm.Free.ALB Jvm.Free.JM Jvm.Free
open Jvm.Lib.Cold (StaticIs)
/-- a char array whose places are chars -/
def Ch (a : Addr) (A : Cell) (U : State) : Prop := Arr .char a A U ∧ Typed .char A
theorem Ch.mv {a : Addr} {A : Cell} {U U' : State} (h : Ch a A U) (hal : U.vm.Alike U'.vm) (hh : U'.heap = U.heap) : Ch a A U' := ⟨h.1.mv hal hh, h.2⟩
theorem Ch.keep {a : Addr} {A : Cell} {U U' : State} (h : Ch a A U) (hal : U.vm.Alike U'.vm) (hk : U'.heap[a]? = some A) : Ch a A U' := ⟨h.1.keep hal hk, h.2⟩
/-- what place i of a char[]'s cell holds -/
def cv (A : Cell) (i : Nat) : Int32 := match A.slots[i]? with | some (.int x) => x | _ => 0
theorem Ch.get {a : Addr} {A : Cell} {U : State} (h : Ch a A U) {i : Nat} (hi : i < A.slots.size) : A.slots[i]? = some (.int (cv A i)) := by
  have e := Array.getElem?_eq_getElem hi
  have f := h.2 i _ e
  unfold cv; rw [e]
  generalize A.slots[i] = v at f
  cases v <;> simp [fits] at f ⊢
/-- the byte that i2b leaves of a char -/
def lo8 (x : Int32) : Int32 := x.toInt8.toInt32
theorem fits_lo8 (y : Int32) : fits .byte (.int (lo8 y)) = true := by
  have h1 := y.toInt8.le_toInt
  have h2 := y.toInt8.toInt_lt
  simp only [lo8, fits, Bool.and_eq_true, decide_eq_true_eq, Int32.le_iff_toInt_le, Int8.toInt_toInt32, show (-128 : Int32).toInt = -128 from by decide, show (127 : Int32).toInt = 127 from by decide]
  omega
/-- A' is A but that each place j of lo .. hi - 1 holds f j -/
def Laid (A A' : Cell) (lo hi : Nat) (f : Nat → Value) : Prop := A'.cls = A.cls ∧ A'.vm = A.vm ∧ A'.slots.size = A.slots.size ∧ ∀ i, A'.slots[i]? = if lo ≤ i ∧ i < hi then some (f i) else A.slots[i]?
theorem Laid.zero (A : Cell) (lo : Nat) (f : Nat → Value) : Laid A A lo (lo + 0) f := ⟨rfl, rfl, rfl, fun i => by rw [if_neg (by omega)]⟩
theorem Laid.step {A Ak : Cell} {lo k : Nat} {f : Nat → Value} {v : Value} (h : Laid A Ak lo k f) (hlo : lo ≤ k) (hk : k < Ak.slots.size) (hv : v = f k) : Laid A (Ak.setSlot k v) lo (k + 1) f := by
  refine ⟨h.1, h.2.1, by simpa [Cell.setSlot] using h.2.2.1, fun i => ?_⟩
  by_cases e : k = i
  · subst e; rw [Cell.slots_setSlot_self v hk, if_pos (by omega), hv]
  · rw [Cell.slots_setSlot_ne v e, h.2.2.2 i]
    by_cases q : lo ≤ i ∧ i < k
    · rw [if_pos q, if_pos (by omega)]
    · rw [if_neg q, if_neg (by omega)]
def U16 : String := "java/lang/StringUTF16"
namespace Cmp5
def yN : MethodName := ⟨"java/lang/StringUTF16", "compress", "([CI[BII)I"⟩
abbrev yB : ByteArray := jdk_52_method_21_code
theorem d0 : decode yB 0 = .ok (.iconst 0, 1) := by decide +kernel
theorem d1 : decode yB 1 = .ok (.istore 5, 2) := by decide +kernel
theorem d3 : decode yB 3 = .ok (.iload 5, 2) := by decide +kernel
theorem d5 : decode yB 5 = .ok (.iload 4, 2) := by decide +kernel
theorem d7 : decode yB 7 = .ok (.if_icmp (.ge) 37, 3) := by decide +kernel
theorem d10 : decode yB 10 = .ok (.aload_n 0, 1) := by decide +kernel
theorem d11 : decode yB 11 = .ok (.iload_n 1, 1) := by decide +kernel
theorem d12 : decode yB 12 = .ok (.caload, 1) := by decide +kernel
theorem d13 : decode yB 13 = .ok (.istore 6, 2) := by decide +kernel
theorem d15 : decode yB 15 = .ok (.iload 6, 2) := by decide +kernel
theorem d17 : decode yB 17 = .ok (.sipush 255, 3) := by decide +kernel
theorem d20 : decode yB 20 = .ok (.if_icmp (.le) 6, 3) := by decide +kernel
theorem d26 : decode yB 26 = .ok (.aload_n 2, 1) := by decide +kernel
theorem d27 : decode yB 27 = .ok (.iload_n 3, 1) := by decide +kernel
theorem d28 : decode yB 28 = .ok (.iload 6, 2) := by decide +kernel
theorem d30 : decode yB 30 = .ok (.i2b, 1) := by decide +kernel
theorem d31 : decode yB 31 = .ok (.bastore, 1) := by decide +kernel
theorem d32 : decode yB 32 = .ok (.iinc 1 1, 3) := by decide +kernel
theorem d35 : decode yB 35 = .ok (.iinc 3 1, 3) := by decide +kernel
theorem d38 : decode yB 38 = .ok (.iinc 5 1, 3) := by decide +kernel
theorem d41 : decode yB 41 = .ok (.goto (-38), 3) := by decide +kernel
theorem d44 : decode yB 44 = .ok (.iload 4, 2) := by decide +kernel
theorem d46 : decode yB 46 = .ok (.ireturn, 1) := by decide +kernel
def site : List Cond := []
def tab : Cond := tabOf yN yB 7 (some .int) site
def P (b : Addr) (A : Cell) (d : Addr) (B : Cell) (o q len : Nat) (args : Array Value) (s : State) : Prop := args = #[.ref b, .int (Int32.ofNat o), .ref d, .int (Int32.ofNat q), .int (Int32.ofNat len)] ∧ Ch b A s ∧ Arr .byte d B s ∧ b ≠ d ∧ o + len ≤ A.slots.size ∧ q + len ≤ B.slots.size ∧ ∀ i, i < len → ¬ 255 < cv A (o + i)
def E (b : Addr) (A : Cell) (d : Addr) (B : Cell) (o q len : Nat) (r : Option Value) (s u : State) : Prop := r = some (.int (Int32.ofNat len)) ∧ ∃ B', Put d B' s u ∧ Laid B B' q (q + len) (fun j => Value.int (lo8 (cv A (o + (j - q)))))
/-- no char of the range above 255: len; the places written hold each char's low byte -/
theorem law (l : Launch) (b : Addr) (A : Cell) (d : Addr) (B : Cell) (o q len : Nat) : Law l yN 5 5 0 0 yB 7 (some .int) site (P b A d B o q len) (E b A d B o q len) (copyLocs d q len) 0 0 := by
  refine Law.of_walk (plainFor_of_name (by decide +kernel)) (by decide +kernel) (by decide +kernel) (by decide) (fun _ _ h => by rw [h.1]; rfl) (fun _ U U' hal hh h => ⟨h.1, h.2.1.mv hal hh, h.2.2.1.mv hal hh, h.2.2.2⟩) (fun r U U' V V' h1 hal h2 h => ⟨h.1, h.2.elim fun B' q => ⟨B', q.1.mv h1 h2, q.2⟩⟩) ?_
  intro p e s m args below meth c s₁ X0 hexec hbytes hml hret hlk hnm hown hh0 W hP
  obtain ⟨rfl, hA, hB, hne, l1, l2, hp⟩ := hP
  have c1 : Steps p.tables e below (s₁.setTop (entryFrame m #[.ref b, .int (Int32.ofNat o), .ref d, .int (Int32.ofNat q), .int (Int32.ofNat len)] 7)) (s₁.setTop (mkF m 0 #[.val (.ref b), .val (.int (Int32.ofNat o)), .val (.ref d), .val (.int (Int32.ofNat q)), .val (.int (Int32.ofNat len)), .unset, .unset] [])) := entry rfl
  have hA0 := hA.1.mv X0.warmed.alike hh0
  have hB0 := hB.mv X0.warmed.alike hh0
  have a31 := hA.1.2.2.2
  have c2 : Steps p.tables e below (s₁.setTop (entryFrame m #[.ref b, .int (Int32.ofNat o), .ref d, .int (Int32.ofNat q), .int (Int32.ofNat len)] 7)) (s₁.setTop (mkF m 3 #[.val (.ref b), .val (.int (Int32.ofNat o)), .val (.ref d), .val (.int (Int32.ofNat q)), .val (.int (Int32.ofNat len)), .val (.int 0), .unset] [])) := c1.trans (by
    refine iconstV X0.here hexec rfl 0 (hb hbytes d0) (by decide) ?_
    refine XS.istore X0.here hexec rfl (hb hbytes d1) rfl rfl ?_
    exact Steps.refl _)
  have loop : ∀ (r i : Nat), i + r = len → ∀ (z : Slot), (z = .unset ∨ ∃ w, z = .val w ∧ w.category = 1) → ∀ (Tl : State) (Bk : Cell), Stand p l e { frames := 0, locals := 0, cells := 0, slots := 0 } s m #[.ref b, .int (Int32.ofNat o), .ref d, .int (Int32.ofNat q), .int (Int32.ofNat len)] below meth c Tl ([] ++ copyLocs d q i) 0 0 → Put d Bk s₁ Tl → Laid B Bk q (q + i) (fun j => Value.int (lo8 (cv A (o + (j - q))))) →
      Steps p.tables e below (s₁.setTop (entryFrame m #[.ref b, .int (Int32.ofNat o), .ref d, .int (Int32.ofNat q), .int (Int32.ofNat len)] 7)) (Tl.setTop (mkF m 3 #[.val (.ref b), .val (.int (Int32.ofNat (o + i))), .val (.ref d), .val (.int (Int32.ofNat (q + i))), .val (.int (Int32.ofNat len)), .val (.int (Int32.ofNat i)), z] [])) → ∃ (T' : State) (B' : Cell) (z' : Slot), Stand p l e { frames := 0, locals := 0, cells := 0, slots := 0 } s m #[.ref b, .int (Int32.ofNat o), .ref d, .int (Int32.ofNat q), .int (Int32.ofNat len)] below meth c T' ([] ++ copyLocs d q len) 0 0 ∧ Put d B' s₁ T' ∧ Laid B B' q (q + len) (fun j => Value.int (lo8 (cv A (o + (j - q))))) ∧
      Steps p.tables e below (s₁.setTop (entryFrame m #[.ref b, .int (Int32.ofNat o), .ref d, .int (Int32.ofNat q), .int (Int32.ofNat len)] 7)) (T'.setTop (mkF m 3 #[.val (.ref b), .val (.int (Int32.ofNat (o + len))), .val (.ref d), .val (.int (Int32.ofNat (q + len))), .val (.int (Int32.ofNat len)), .val (.int (Int32.ofNat len)), z'] [])) := by
    intro r
    induction r with
    | zero =>
      intro i hi z hz Tl Bk Xl pl fl cl
      have hil : i = len := by omega
      rw [hil] at Xl fl cl
      exact ⟨Tl, Bk, z, Xl, pl, fl, cl⟩
    | succ r ih =>
      intro i hi z hz Tl Bk Xl pl fl cl
      have all := X0.warmed.alike.symm.trans Xl.warmed.alike
      have hAl := hA0.keep all (pl.other hne hA0.1)
      have hBk := hB0.like all pl.1 fl.1 fl.2.1 fl.2.2.1
      have hlt : q + i < Bk.slots.size := by rw [fl.2.2.1]; omega
      have c3 : Steps p.tables e below (s₁.setTop (entryFrame m #[.ref b, .int (Int32.ofNat o), .ref d, .int (Int32.ofNat q), .int (Int32.ofNat len)] 7)) (Tl.setTop (mkF m 12 #[.val (.ref b), .val (.int (Int32.ofNat (o + i))), .val (.ref d), .val (.int (Int32.ofNat (q + i))), .val (.int (Int32.ofNat len)), .val (.int (Int32.ofNat i)), z] [.int (Int32.ofNat (o + i)), .ref b])) := cl.trans (by
        refine XS.iload Xl.here hexec rfl (hb hbytes d3) rfl ?_
        refine XS.iload Xl.here hexec rfl (hb hbytes d5) rfl ?_
        refine XS.icmpNo Xl.here hexec rfl (hb hbytes d7) rfl (ii_ge_f (lt32 (by omega) (by omega))) ?_
        refine XS.aloadN Xl.here hexec rfl (hb hbytes d10) rfl rfl ?_
        refine XS.iloadN Xl.here hexec rfl (hb hbytes d11) rfl ?_
        exact Steps.refl _)
      have c4 : Steps p.tables e below (s₁.setTop (entryFrame m #[.ref b, .int (Int32.ofNat o), .ref d, .int (Int32.ofNat q), .int (Int32.ofNat len)] 7)) (Tl.setTop (mkF m 13 #[.val (.ref b), .val (.int (Int32.ofNat (o + i))), .val (.ref d), .val (.int (Int32.ofNat (q + i))), .val (.int (Int32.ofNat len)), .val (.int (Int32.ofNat i)), z] [.int (cv A (o + i))])) := c3.trans (by
        refine Xl.aget hexec hAl rfl (hA.get (i := o + i) (by omega)) rfl rfl (hb hbytes d12) ?_
        exact Steps.refl _)
      have c5 : Steps p.tables e below (s₁.setTop (entryFrame m #[.ref b, .int (Int32.ofNat o), .ref d, .int (Int32.ofNat q), .int (Int32.ofNat len)] 7)) (Tl.setTop (mkF m 15 #[.val (.ref b), .val (.int (Int32.ofNat (o + i))), .val (.ref d), .val (.int (Int32.ofNat (q + i))), .val (.int (Int32.ofNat len)), .val (.int (Int32.ofNat i)), .val (.int (cv A (o + i)))] [])) := c4.trans (by
        refine XS.istoreS Xl.here hexec rfl (hb hbytes d13) rfl rfl hz ?_
        exact Steps.refl _)
      have c6 : Steps p.tables e below (s₁.setTop (entryFrame m #[.ref b, .int (Int32.ofNat o), .ref d, .int (Int32.ofNat q), .int (Int32.ofNat len)] 7)) (Tl.setTop (mkF m 31 #[.val (.ref b), .val (.int (Int32.ofNat (o + i))), .val (.ref d), .val (.int (Int32.ofNat (q + i))), .val (.int (Int32.ofNat len)), .val (.int (Int32.ofNat i)), .val (.int (cv A (o + i)))] [.int (lo8 (cv A (o + i))), .int (Int32.ofNat (q + i)), .ref d])) := c5.trans (by
        refine XS.iload Xl.here hexec rfl (hb hbytes d15) rfl ?_
        refine sipushV Xl.here hexec rfl 255 (hb hbytes d17) (by decide) ?_
        refine XS.icmpYes Xl.here hexec rfl (pc0 := 20) rfl (hb hbytes d20) rfl (ii_le_t (hp i (by omega))) (by decide) rfl ?_
        refine XS.aloadN Xl.here hexec rfl (hb hbytes d26) rfl rfl ?_
        refine XS.iloadN Xl.here hexec rfl (hb hbytes d27) rfl ?_
        refine XS.iload Xl.here hexec rfl (hb hbytes d28) rfl ?_
        refine i2b Xl.here hexec rfl (hb hbytes d30) rfl ?_
        exact Steps.refl _)
      obtain ⟨T7, X7, p7, st7⟩ := Xl.aput hexec hBk rfl hlt rfl (fits_lo8 (cv A (o + i))) (g := (mkF m 31 #[.val (.ref b), .val (.int (Int32.ofNat (o + i))), .val (.ref d), .val (.int (Int32.ofNat (q + i))), .val (.int (Int32.ofNat len)), .val (.int (Int32.ofNat i)), .val (.int (cv A (o + i)))] [.int (lo8 (cv A (o + i))), .int (Int32.ofNat (q + i)), .ref d])) rfl (rest := []) rfl (hb hbytes d31)
      have c8 : Steps p.tables e below (s₁.setTop (entryFrame m #[.ref b, .int (Int32.ofNat o), .ref d, .int (Int32.ofNat q), .int (Int32.ofNat len)] 7)) (T7.setTop (mkF m 32 #[.val (.ref b), .val (.int (Int32.ofNat (o + i))), .val (.ref d), .val (.int (Int32.ofNat (q + i))), .val (.int (Int32.ofNat len)), .val (.int (Int32.ofNat i)), .val (.int (cv A (o + i)))] [])) := c6.trans (st7 _ (Steps.refl _))
      have c9 : Steps p.tables e below (s₁.setTop (entryFrame m #[.ref b, .int (Int32.ofNat o), .ref d, .int (Int32.ofNat q), .int (Int32.ofNat len)] 7)) (T7.setTop (mkF m 3 #[.val (.ref b), .val (.int (Int32.ofNat (o + i) + 1)), .val (.ref d), .val (.int (Int32.ofNat (q + i) + 1)), .val (.int (Int32.ofNat len)), .val (.int (Int32.ofNat i + 1)), .val (.int (cv A (o + i)))] [])) := c8.trans (by
        refine iincV X7.here hexec rfl 1 (hb hbytes d32) (by decide) rfl rfl ?_
        refine iincV X7.here hexec rfl 1 (hb hbytes d35) (by decide) rfl rfl ?_
        refine iincV X7.here hexec rfl 1 (hb hbytes d38) (by decide) rfl rfl ?_
        refine XS.goto X7.here hexec rfl (pc0 := 41) rfl (hb hbytes d41) (by decide) rfl ?_
        exact Steps.refl _)
      have c10 : Steps p.tables e below (s₁.setTop (entryFrame m #[.ref b, .int (Int32.ofNat o), .ref d, .int (Int32.ofNat q), .int (Int32.ofNat len)] 7)) (T7.setTop (mkF m 3 #[.val (.ref b), .val (.int (Int32.ofNat (o + (i + 1)))), .val (.ref d), .val (.int (Int32.ofNat (q + (i + 1)))), .val (.int (Int32.ofNat len)), .val (.int (Int32.ofNat (i + 1))), .val (.int (cv A (o + i)))] [])) := by
        have := c9
        rw [succ32, succ32, succ32] at this
        exact this
      exact ih (i + 1) (by omega) _ (Or.inr ⟨_, rfl, rfl⟩) T7 _ (by rw [copyLocs_step, ← List.append_assoc]; exact X7) (pl.trans p7) (fl.step (by omega) hlt (by simp)) c10
  obtain ⟨T9, B9, z9, X9, p9, f9, g9⟩ := loop len 0 (by omega) .unset (Or.inl rfl) s₁ B (by simpa [copyLocs] using X0) ⟨hB0.1, fun _ _ => rfl, rfl⟩ (Laid.zero _ _ _) c2
  have c11 : Steps p.tables e below (s₁.setTop (entryFrame m #[.ref b, .int (Int32.ofNat o), .ref d, .int (Int32.ofNat q), .int (Int32.ofNat len)] 7)) (T9.setTop (mkF m 46 #[.val (.ref b), .val (.int (Int32.ofNat (o + len))), .val (.ref d), .val (.int (Int32.ofNat (q + len))), .val (.int (Int32.ofNat len)), .val (.int (Int32.ofNat len)), z9] [.int (Int32.ofNat len)])) := g9.trans (by
    refine XS.iload X9.here hexec rfl (hb hbytes d3) rfl ?_
    refine XS.iload X9.here hexec rfl (hb hbytes d5) rfl ?_
    refine XS.icmpYes X9.here hexec rfl (pc0 := 7) rfl (hb hbytes d7) rfl (ii_ge_t (nlt32 (by omega) (Nat.le_refl _))) (by decide) rfl ?_
    refine XS.iload X9.here hexec rfl (hb hbytes d44) rfl ?_
    exact Steps.refl _)
  exact ⟨T9, some (.int (Int32.ofNat len)), _, _, _, X9, by simp, rfl, rfl, (fun h => by cases h), ⟨rfl, B9, p9.from hh0, f9⟩, fun fs hl => c11.trans (X9.ireturnOut hexec hret rfl (Or.inl rfl) (hb hbytes d46) hl)⟩
end Cmp5
namespace Cmp3
def yN : MethodName := ⟨"java/lang/StringUTF16", "compress", "([CII)[B"⟩
abbrev yB : ByteArray := jdk_52_method_16_code
theorem d0 : decode yB 0 = .ok (.iload_n 2, 1) := by decide +kernel
theorem d1 : decode yB 1 = .ok (.newarray .byte, 2) := by decide +kernel
theorem d3 : decode yB 3 = .ok (.astore_n 3, 1) := by decide +kernel
theorem d4 : decode yB 4 = .ok (.aload_n 0, 1) := by decide +kernel
theorem d5 : decode yB 5 = .ok (.iload_n 1, 1) := by decide +kernel
theorem d6 : decode yB 6 = .ok (.aload_n 3, 1) := by decide +kernel
theorem d7 : decode yB 7 = .ok (.iconst 0, 1) := by decide +kernel
theorem d8 : decode yB 8 = .ok (.iload_n 2, 1) := by decide +kernel
theorem d9 : decode yB 9 = .ok (.invokestatic 115, 3) := by decide +kernel
theorem d12 : decode yB 12 = .ok (.istore 4, 2) := by decide +kernel
theorem d14 : decode yB 14 = .ok (.iload 4, 2) := by decide +kernel
theorem d16 : decode yB 16 = .ok (.iload_n 2, 1) := by decide +kernel
theorem d17 : decode yB 17 = .ok (.if_icmp (.eq) 40, 3) := by decide +kernel
theorem d57 : decode yB 57 = .ok (.aload_n 3, 1) := by decide +kernel
theorem d58 : decode yB 58 = .ok (.areturn, 1) := by decide +kernel
def site : List Cond := [.arrayClass .byte, Cmp5.tab] ++ staticW U16 115 Cmp5.yN
def tab : Cond := tabOf yN yB 6 (some (.array .byte)) site
def P (b : Addr) (A : Cell) (o len : Nat) (args : Array Value) (s : State) : Prop := args = #[.ref b, .int (Int32.ofNat o), .int (Int32.ofNat len)] ∧ Ch b A s ∧ o + len ≤ A.slots.size ∧ len ≤ 536870912 ∧ ∀ i, i < len → ¬ 255 < cv A (o + i)
def E (b : Addr) (A : Cell) (o len : Nat) (r : Option Value) (s u : State) : Prop := NewArr .byte "[B" len (fun j => .int (lo8 (cv A (o + j)))) r s u ∧ u.heap.size = s.heap.size + 1
/-- no char of the range above 255: a new byte[] of their low bytes -/
theorem law (l : Launch) (b : Addr) (A : Cell) (o len : Nat) : Law l yN 3 3 1 18 yB 6 (some (.array .byte)) site (P b A o len) (E b A o len) [] 1 len := by
  refine Law.of_walk (plainFor_of_name (by decide +kernel)) (by decide +kernel) (by decide +kernel) (by decide) (fun _ _ h => by rw [h.1]; rfl) (fun _ U U' hal hh h => ⟨h.1, h.2.1.mv hal hh, h.2.2⟩) (fun r U U' V V' h1 hal h2 h => ⟨NewArr.mv r U U' V V' h1 hal h2 h.1, by rw [h1, h2]; exact h.2⟩) ?_
  intro p e s m args below meth c s₁ X0 hexec hbytes hml hret hlk hnm hown hh0 W hP
  obtain ⟨rfl, hA, l1, l2, hp⟩ := hP
  have a31 := hA.1.2.2.2
  have c1 : Steps p.tables e below (s₁.setTop (entryFrame m #[.ref b, .int (Int32.ofNat o), .int (Int32.ofNat len)] 6)) (s₁.setTop (mkF m 0 #[.val (.ref b), .val (.int (Int32.ofNat o)), .val (.int (Int32.ofNat len)), .unset, .unset, .unset] [])) := entry rfl
  have c2 : Steps p.tables e below (s₁.setTop (entryFrame m #[.ref b, .int (Int32.ofNat o), .int (Int32.ofNat len)] 6)) (s₁.setTop (mkF m 1 #[.val (.ref b), .val (.int (Int32.ofNat o)), .val (.int (Int32.ofNat len)), .unset, .unset, .unset] [.int (Int32.ofNat len)])) := c1.trans (by
    refine XS.iloadN X0.here hexec rfl (hb hbytes d0) rfl ?_
    exact Steps.refl _)
  obtain ⟨T3, B3, X3, ba3, bs3, bv3, bh3, bf3, st3⟩ := X0.anew hexec (atype := .byte) (wk W (.arrayClass .byte)) rfl (by show len * 1 ≤ _; omega) (by omega) (g := (mkF m 1 #[.val (.ref b), .val (.int (Int32.ofNat o)), .val (.int (Int32.ofNat len)), .unset, .unset, .unset] [.int (Int32.ofNat len)])) rfl (hb hbytes d1) (rest := []) rfl (Nat.le_refl _) (by show 0 + len ≤ len; omega)
  rw [hh0] at ba3 st3
  have kp3 : XT.Kept s T3 := (XT.Kept.of_eq hh0).push bh3
  have hA3 := hA.keep X3.warmed.alike (kp3 _ _ hA.1.1)
  have hne : b ≠ s.heap.size := hA.1.ne
  have c4 : Steps p.tables e below (s₁.setTop (entryFrame m #[.ref b, .int (Int32.ofNat o), .int (Int32.ofNat len)] 6)) (T3.setTop (mkF m 3 #[.val (.ref b), .val (.int (Int32.ofNat o)), .val (.int (Int32.ofNat len)), .unset, .unset, .unset] [.ref s.heap.size])) := c2.trans (st3 _ (Steps.refl _))
  have c5 : Steps p.tables e below (s₁.setTop (entryFrame m #[.ref b, .int (Int32.ofNat o), .int (Int32.ofNat len)] 6)) (T3.setTop (mkF m 9 #[.val (.ref b), .val (.int (Int32.ofNat o)), .val (.int (Int32.ofNat len)), .val (.ref s.heap.size), .unset, .unset] [.int (Int32.ofNat len), .int 0, .ref s.heap.size, .int (Int32.ofNat o), .ref b])) := c4.trans (by
    refine XS.astoreN X3.here hexec rfl (hb hbytes d3) rfl rfl rfl ?_
    refine XS.aloadN X3.here hexec rfl (hb hbytes d4) rfl rfl ?_
    refine XS.iloadN X3.here hexec rfl (hb hbytes d5) rfl ?_
    refine XS.aloadN X3.here hexec rfl (hb hbytes d6) rfl rfl ?_
    refine iconstV X3.here hexec rfl 0 (hb hbytes d7) (by decide) ?_
    refine XS.iloadN X3.here hexec rfl (hb hbytes d8) rfl ?_
    exact Steps.refl _)
  obtain ⟨v6, T6, X6, E6, g6⟩ := X3.callS hexec (Cmp5.law l b A s.heap.size B3 o 0 len) hown (wks W (staticW U16 115 Cmp5.yN)) (wk W Cmp5.tab) (W := 0) (Nat.le_of_ble_eq_true rfl) (Nat.le_of_ble_eq_true rfl) (Nat.le_refl _) (by show 0 + len + 0 ≤ len; omega) (g := (mkF m 9 #[.val (.ref b), .val (.int (Int32.ofNat o)), .val (.int (Int32.ofNat len)), .val (.ref s.heap.size), .unset, .unset] [.int (Int32.ofNat len), .int (Int32.ofNat 0), .ref s.heap.size, .int (Int32.ofNat o), .ref b])) rfl (by rw [hml]; rfl) c5 (argsL := [.ref b, .int (Int32.ofNat o), .ref s.heap.size, .int (Int32.ofNat 0), .int (Int32.ofNat len)]) (rest := []) rfl rfl (by show 2 * 0 + 0 ≤ _; decide) (hb hbytes d9) (⟨rfl, hA3, ba3, hne, l1, by rw [bs3]; simp, hp⟩)
  obtain ⟨rfl, B6, p6, f6⟩ := E6
  have c7 : Steps p.tables e below (s₁.setTop (entryFrame m #[.ref b, .int (Int32.ofNat o), .int (Int32.ofNat len)] 6)) (T6.setTop (mkF m 12 #[.val (.ref b), .val (.int (Int32.ofNat o)), .val (.int (Int32.ofNat len)), .val (.ref s.heap.size), .unset, .unset] [.int (Int32.ofNat len)])) := g6
  have c8 : Steps p.tables e below (s₁.setTop (entryFrame m #[.ref b, .int (Int32.ofNat o), .int (Int32.ofNat len)] 6)) (T6.setTop (mkF m 58 #[.val (.ref b), .val (.int (Int32.ofNat o)), .val (.int (Int32.ofNat len)), .val (.ref s.heap.size), .val (.int (Int32.ofNat len)), .unset] [.ref s.heap.size])) := c7.trans (by
    refine XS.istore X6.here hexec rfl (hb hbytes d12) rfl rfl ?_
    refine XS.iload X6.here hexec rfl (hb hbytes d14) rfl ?_
    refine XS.iloadN X6.here hexec rfl (hb hbytes d16) rfl ?_
    refine XS.icmpYes X6.here hexec rfl (pc0 := 17) rfl (hb hbytes d17) rfl (ii_eq_t rfl) (by decide) rfl ?_
    refine XS.aloadN X6.here hexec rfl (hb hbytes d57) rfl rfl ?_
    exact Steps.refl _)
  have X8 := X6.wide (L' := []) (cells' := 1) (slots' := len) (fun x hx hlt => by
    simp only [List.nil_append, copyLocs, List.mem_map, List.mem_range] at hx
    obtain ⟨i, -, rfl⟩ := hx
    exact absurd hlt (Nat.lt_irrefl _)) (Nat.le_refl _) (by omega)
  exact ⟨T6, some (.ref s.heap.size), _, _, _, X8, rfl, rfl, rfl, (fun h => by cases h), ⟨⟨rfl, B6, ba3.like (X3.warmed.alike.symm.trans X6.warmed.alike) p6.1 f6.1 f6.2.1 f6.2.2.1, f6.2.1.trans bv3, by rw [X6.warmed.alike.findClass, f6.1]; exact bf3, by rw [f6.2.2.1, bs3]; simp, fun j hj => by rw [f6.2.2.2 j, if_pos (by omega)]; rfl, kp3.put p6 (Nat.le_refl _)⟩, by rw [p6.2.2, bh3, hh0]; simp⟩, fun fs hl => c8.trans (X8.areturnOut hexec rfl hret rfl (hb hbytes d58) hl)⟩
end Cmp3
namespace CodL
def yN : MethodName := ⟨"java/lang/StringUTF16", "coderFromArrayLen", "([BI)B"⟩
abbrev yB : ByteArray := jdk_52_method_15_code
theorem d0 : decode yB 0 = .ok (.iload_n 1, 1) := by decide +kernel
theorem d1 : decode yB 1 = .ok (.aload_n 0, 1) := by decide +kernel
theorem d2 : decode yB 2 = .ok (.arraylength, 1) := by decide +kernel
theorem d3 : decode yB 3 = .ok (.isub, 1) := by decide +kernel
theorem d4 : decode yB 4 = .ok (.bipush 31, 2) := by decide +kernel
theorem d6 : decode yB 6 = .ok (.iushr, 1) := by decide +kernel
theorem d7 : decode yB 7 = .ok (.i2b, 1) := by decide +kernel
theorem d8 : decode yB 8 = .ok (.ireturn, 1) := by decide +kernel
def site : List Cond := []
def tab : Cond := tabOf yN yB 2 (some .byte) site
def P (d : Addr) (B : Cell) (args : Array Value) (s : State) : Prop := args = #[.ref d, .int (Int32.ofNat B.slots.size)] ∧ Arr .byte d B s
def E (r : Option Value) (s u : State) : Prop := XT.PureE (some (.int 0)) r s u
/-- an array as long as the number of chars: LATIN1 -/
theorem law (l : Launch) (d : Addr) (B : Cell) : Law l yN 2 2 0 0 yB 2 (some .byte) site (P d B) E [] 0 0 := by
  refine Law.of_walk (plainFor_of_name (by decide +kernel)) (by decide +kernel) (by decide +kernel) (by decide) (fun _ _ h => by rw [h.1]; rfl) (fun _ U U' hal hh h => ⟨h.1, h.2.mv hal hh⟩) (fun r U U' V V' h1 hal h2 h => XT.PureE.mv r U U' V V' h1 hal h2 h) ?_
  intro p e s m args below meth c s₁ X0 hexec hbytes hml hret hlk hnm hown hh0 W hP
  obtain ⟨rfl, hB⟩ := hP
  have hB0 := hB.mv X0.warmed.alike hh0
  have c1 : Steps p.tables e below (s₁.setTop (entryFrame m #[.ref d, .int (Int32.ofNat B.slots.size)] 2)) (s₁.setTop (mkF m 0 #[.val (.ref d), .val (.int (Int32.ofNat B.slots.size))] [])) := entry rfl
  have c2 : Steps p.tables e below (s₁.setTop (entryFrame m #[.ref d, .int (Int32.ofNat B.slots.size)] 2)) (s₁.setTop (mkF m 2 #[.val (.ref d), .val (.int (Int32.ofNat B.slots.size))] [.ref d, .int (Int32.ofNat B.slots.size)])) := c1.trans (by
    refine XS.iloadN X0.here hexec rfl (hb hbytes d0) rfl ?_
    refine XS.aloadN X0.here hexec rfl (hb hbytes d1) rfl rfl ?_
    exact Steps.refl _)
  have c3 : Steps p.tables e below (s₁.setTop (entryFrame m #[.ref d, .int (Int32.ofNat B.slots.size)] 2)) (s₁.setTop (mkF m 8 #[.val (.ref d), .val (.int (Int32.ofNat B.slots.size))] [.int (lo8 (ushr (Int32.ofNat B.slots.size - Int32.ofNat B.slots.size) 31))])) := c2.trans (by
    refine X0.alen hexec hB0 rfl rfl (hb hbytes d2) ?_
    refine XS.isub X0.here hexec rfl (hb hbytes d3) rfl ?_
    refine bipushV X0.here hexec rfl 31 (hb hbytes d4) (by decide) ?_
    refine iushr X0.here hexec rfl (hb hbytes d6) rfl ?_
    refine i2b X0.here hexec rfl (hb hbytes d7) rfl ?_
    exact Steps.refl _)
  have e0 : lo8 (ushr (Int32.ofNat B.slots.size - Int32.ofNat B.slots.size) 31) = 0 := by rw [Int32.sub_self]; decide
  rw [e0] at c3
  exact ⟨s₁, some (.int 0), _, _, _, X0, rfl, rfl, rfl, (fun h => by cases h), ⟨rfl, hh0⟩, fun fs hl => c3.trans (X0.ireturnOut hexec hret rfl (Or.inr (Or.inr (Or.inl rfl))) (hb hbytes d8) hl)⟩
end CodL
/-- the String at a is Latin-1 over a new byte[] (the heap's one new cell): the low bytes of the len chars of A from o on; every cell but a is kept -/
def Got (a : Addr) (D : Cell) (fV fC : Field) (A : Cell) (o len : Nat) (r : Option Value) (s u : State) : Prop := r = none ∧ ∃ D' V : Cell, Blank "java/lang/String" a D' u ∧ Same D D' [fV.slot, fC.slot] ∧ D'.slots[fV.slot]? = some (.ref s.heap.size) ∧ D'.slots[fC.slot]? = some (.int 0) ∧ Arr .byte s.heap.size V u ∧ V.vm = .none ∧ u.vm.findClass "[B" = some V.cls ∧ V.slots.size = len ∧ (∀ j, j < len → V.slots[j]? = some (.int (lo8 (cv A (o + j))))) ∧ (∀ (y : Addr) (c : Cell), y ≠ a → s.heap[y]? = some c → u.heap[y]? = some c) ∧ u.heap.size = s.heap.size + 1
theorem Got.mv {a : Addr} {D A : Cell} {fV fC : Field} {o len : Nat} : ∀ r (U U' V V' : State), U'.heap = U.heap → V.vm.Alike V'.vm → V'.heap = V.heap → Got a D fV fC A o len r U V → Got a D fV fC A o len r U' V' :=
  fun r U U' V V' h1 hal h2 ⟨e0, D', X, a1, a2, a3, a4, a5, a6, a7, a8, a9, a10, a11⟩ => ⟨e0, D', X, a1.mv hal h2, a2, by rw [h1]; exact a3, a4, by rw [h1]; exact a5.mv hal h2, a6, by rw [hal.findClass]; exact a7, a8, a9, by rw [h1, h2]; exact a10, by rw [h1, h2]; exact a11⟩
namespace New4
def yN : MethodName := ⟨"java/lang/String", "<init>", "([CIILjava/lang/Void;)V"⟩
abbrev yB : ByteArray := jdk_42_method_149_code
theorem d0 : decode yB 0 = .ok (.aload_n 0, 1) := by decide +kernel
theorem d1 : decode yB 1 = .ok (.invokespecial 1, 3) := by decide +kernel
theorem d4 : decode yB 4 = .ok (.iload_n 3, 1) := by decide +kernel
theorem d5 : decode yB 5 = .ok (.ifCond (.ne) 22, 3) := by decide +kernel
theorem d27 : decode yB 27 = .ok (.getstatic 38, 3) := by decide +kernel
theorem d30 : decode yB 30 = .ok (.ifCond (.eq) 28, 3) := by decide +kernel
theorem d33 : decode yB 33 = .ok (.aload_n 1, 1) := by decide +kernel
theorem d34 : decode yB 34 = .ok (.iload_n 2, 1) := by decide +kernel
theorem d35 : decode yB 35 = .ok (.iload_n 3, 1) := by decide +kernel
theorem d36 : decode yB 36 = .ok (.invokestatic 177, 3) := by decide +kernel
theorem d39 : decode yB 39 = .ok (.astore 5, 2) := by decide +kernel
theorem d41 : decode yB 41 = .ok (.aload_n 0, 1) := by decide +kernel
theorem d42 : decode yB 42 = .ok (.aload 5, 2) := by decide +kernel
theorem d44 : decode yB 44 = .ok (.iload_n 3, 1) := by decide +kernel
theorem d45 : decode yB 45 = .ok (.invokestatic 47, 3) := by decide +kernel
theorem d48 : decode yB 48 = .ok (.putfield 15, 3) := by decide +kernel
theorem d51 : decode yB 51 = .ok (.aload_n 0, 1) := by decide +kernel
theorem d52 : decode yB 52 = .ok (.aload 5, 2) := by decide +kernel
theorem d54 : decode yB 54 = .ok (.putfield 9, 3) := by decide +kernel
theorem d57 : decode yB 57 = .ok (.return_, 1) := by decide +kernel
def site : List Cond := [.fieldLink "java/lang/String" 38 "java/lang/String" "COMPACT_STRINGS" "Z", Cmp3.tab, CodL.tab, .laysFinal "java/lang/String" "java/lang/String" "value" "[B", .fieldLink "java/lang/String" 9 "java/lang/String" "value" "[B", .laysFinal "java/lang/String" "java/lang/String" "coder" "B", .fieldLink "java/lang/String" 15 "java/lang/String" "coder" "B"] ++ objW "java/lang/String" 1 ++ staticW "java/lang/String" 177 Cmp3.yN ++ staticW "java/lang/String" 47 CodL.yN
def tab : Cond := tabOf yN yB 6 none site
def P (a : Addr) (D : Cell) (fV fC : Field) (b : Addr) (A : Cell) (z : Int32) (o len : Nat) (args : Array Value) (s : State) : Prop := args = #[.ref a, .ref b, .int (Int32.ofNat o), .int (Int32.ofNat len), .null] ∧ Blank "java/lang/String" a D s ∧ Found "java/lang/String" "value" "[B" fV s ∧ Found "java/lang/String" "coder" "B" fC s ∧ Ch b A s ∧ StaticIs s "java/lang/String" "COMPACT_STRINGS" "Z" (.int z) ∧ ¬ z = 0 ∧ 0 < len ∧ o + len ≤ A.slots.size ∧ len ≤ 536870912 ∧ ∀ i, i < len → ¬ 255 < cv A (o + i)
def E (a : Addr) (D : Cell) (fV fC : Field) (A : Cell) (o len : Nat) (r : Option Value) (s u : State) : Prop := Got a D fV fC A o len r s u
/-- len > 0, no char of the range above 255: a Latin-1 String of their low bytes -/
theorem law (l : Launch) (a : Addr) (D : Cell) (fV fC : Field) (b : Addr) (A : Cell) (z : Int32) (o len : Nat) : Law l yN 5 4 2 35 yB 6 none site (P a D fV fC b A z o len) (E a D fV fC A o len) [⟨a, fC.slot⟩, ⟨a, fV.slot⟩] 1 len := by
  refine Law.of_walk (plainFor_of_name (by decide +kernel)) (by decide +kernel) (by decide +kernel) (by decide) (fun _ _ h => by rw [h.1]; rfl) (fun _ U U' hal hh h => ⟨h.1, h.2.1.mv hal hh, h.2.2.1.al hal, h.2.2.2.1.al hal, h.2.2.2.2.1.mv hal hh, h.2.2.2.2.2.1.there hal hh, h.2.2.2.2.2.2⟩) (fun r U U' V V' h1 hal h2 h => Got.mv r U U' V V' h1 hal h2 h) ?_
  intro p e s m args below meth c s₁ X0 hexec hbytes hml hret hlk hnm hown hh0 W hP
  obtain ⟨rfl, hB, f1, f2, hA, s1, hz, l0, l1, l2, hp⟩ := hP
  have a31 := hA.1.2.2.2
  have c1 : Steps p.tables e below (s₁.setTop (entryFrame m #[.ref a, .ref b, .int (Int32.ofNat o), .int (Int32.ofNat len), .null] 6)) (s₁.setTop (mkF m 0 #[.val (.ref a), .val (.ref b), .val (.int (Int32.ofNat o)), .val (.int (Int32.ofNat len)), .val .null, .unset] [])) := entry rfl
  have c2 : Steps p.tables e below (s₁.setTop (entryFrame m #[.ref a, .ref b, .int (Int32.ofNat o), .int (Int32.ofNat len), .null] 6)) (s₁.setTop (mkF m 1 #[.val (.ref a), .val (.ref b), .val (.int (Int32.ofNat o)), .val (.int (Int32.ofNat len)), .val .null, .unset] [.ref a])) := c1.trans (by
    refine XS.aloadN X0.here hexec rfl (hb hbytes d0) rfl rfl ?_
    exact Steps.refl _)
  obtain ⟨T3, X3, q3, st3⟩ := X0.oinit hexec hown (wks W (objW "java/lang/String" 1)) (g := (mkF m 1 #[.val (.ref a), .val (.ref b), .val (.int (Int32.ofNat o)), .val (.int (Int32.ofNat len)), .val .null, .unset] [.ref a])) rfl (by rw [hml]; rfl) (rest := []) rfl (hb hbytes d1) (W := 0) (by show 2 * 0 + 0 ≤ _; decide) (Nat.le_of_ble_eq_true rfl) (Nat.le_of_ble_eq_true rfl)
  have hh3 := q3.trans hh0
  have c4 : Steps p.tables e below (s₁.setTop (entryFrame m #[.ref a, .ref b, .int (Int32.ofNat o), .int (Int32.ofNat len), .null] 6)) (T3.setTop (mkF m 27 #[.val (.ref a), .val (.ref b), .val (.int (Int32.ofNat o)), .val (.int (Int32.ofNat len)), .val .null, .unset] [])) := (c2.trans (st3 _ (Steps.refl _))).trans (by
    refine XS.iloadN X3.here hexec rfl (hb hbytes d4) rfl ?_
    refine XS.ifYes X3.here hexec rfl (pc0 := 5) rfl (hb hbytes d5) rfl (i0_ne_t (nz32 (by omega) l0)) (by decide) rfl ?_
    exact Steps.refl _)
  obtain ⟨T5, X5, q5, st5⟩ := X3.sget hexec hown (wk W (.fieldLink "java/lang/String" 38 "java/lang/String" "COMPACT_STRINGS" "Z")) s1 (fun _ _ h => by rw [hh3]; exact h) (g := (mkF m 27 #[.val (.ref a), .val (.ref b), .val (.int (Int32.ofNat o)), .val (.int (Int32.ofNat len)), .val .null, .unset] [])) rfl (hb hbytes d27)
  have hh5 := q5.trans hh3
  have c6 : Steps p.tables e below (s₁.setTop (entryFrame m #[.ref a, .ref b, .int (Int32.ofNat o), .int (Int32.ofNat len), .null] 6)) (T5.setTop (mkF m 30 #[.val (.ref a), .val (.ref b), .val (.int (Int32.ofNat o)), .val (.int (Int32.ofNat len)), .val .null, .unset] [.int z])) := c4.trans (st5 _ (Steps.refl _))
  have c7 : Steps p.tables e below (s₁.setTop (entryFrame m #[.ref a, .ref b, .int (Int32.ofNat o), .int (Int32.ofNat len), .null] 6)) (T5.setTop (mkF m 36 #[.val (.ref a), .val (.ref b), .val (.int (Int32.ofNat o)), .val (.int (Int32.ofNat len)), .val .null, .unset] [.int (Int32.ofNat len), .int (Int32.ofNat o), .ref b])) := c6.trans (by
    refine XS.ifNo X5.here hexec rfl (hb hbytes d30) rfl (i0_eq_f hz) ?_
    refine XS.aloadN X5.here hexec rfl (hb hbytes d33) rfl rfl ?_
    refine XS.iloadN X5.here hexec rfl (hb hbytes d34) rfl ?_
    refine XS.iloadN X5.here hexec rfl (hb hbytes d35) rfl ?_
    exact Steps.refl _)
  obtain ⟨v8, T8, X8, E8, g8⟩ := X5.callS hexec (Cmp3.law l b A o len) hown (wks W (staticW "java/lang/String" 177 Cmp3.yN)) (wk W Cmp3.tab) (W := 0) (Nat.le_of_ble_eq_true rfl) (Nat.le_of_ble_eq_true rfl) (Nat.le_refl _) (by show 0 + len ≤ len; omega) (g := (mkF m 36 #[.val (.ref a), .val (.ref b), .val (.int (Int32.ofNat o)), .val (.int (Int32.ofNat len)), .val .null, .unset] [.int (Int32.ofNat len), .int (Int32.ofNat o), .ref b])) rfl (by rw [hml]; rfl) c7 (argsL := [.ref b, .int (Int32.ofNat o), .int (Int32.ofNat len)]) (rest := []) rfl rfl (by show 2 * 0 + 0 ≤ _; decide) (hb hbytes d36) (⟨rfl, hA.mv X5.warmed.alike hh5, l1, l2, hp⟩)
  obtain ⟨e8, z8⟩ := E8
  obtain ⟨rfl, N, n1, n2, n3, n4, n5, n6⟩ := NewArr.mv _ T5 s _ _ hh5.symm (Vm.Alike.refl _) rfl e8
  rw [hh5] at z8
  have hB1 := hB.keep X8.warmed.alike (n6 _ _ hB.1)
  have hne : s.heap.size ≠ a := (Nat.ne_of_lt (Array.getElem?_eq_some_iff.mp hB.1).1).symm
  have c9 : Steps p.tables e below (s₁.setTop (entryFrame m #[.ref a, .ref b, .int (Int32.ofNat o), .int (Int32.ofNat len), .null] 6)) (T8.setTop (mkF m 39 #[.val (.ref a), .val (.ref b), .val (.int (Int32.ofNat o)), .val (.int (Int32.ofNat len)), .val .null, .unset] [.ref s.heap.size])) := g8
  have c10 : Steps p.tables e below (s₁.setTop (entryFrame m #[.ref a, .ref b, .int (Int32.ofNat o), .int (Int32.ofNat len), .null] 6)) (T8.setTop (mkF m 45 #[.val (.ref a), .val (.ref b), .val (.int (Int32.ofNat o)), .val (.int (Int32.ofNat len)), .val .null, .val (.ref s.heap.size)] [.int (Int32.ofNat N.slots.size), .ref s.heap.size, .ref a])) := by
    have hc : Steps p.tables e below (s₁.setTop (entryFrame m #[.ref a, .ref b, .int (Int32.ofNat o), .int (Int32.ofNat len), .null] 6)) (T8.setTop (mkF m 45 #[.val (.ref a), .val (.ref b), .val (.int (Int32.ofNat o)), .val (.int (Int32.ofNat len)), .val .null, .val (.ref s.heap.size)] [.int (Int32.ofNat len), .ref s.heap.size, .ref a])) := c9.trans (by
      refine XS.astore X8.here hexec rfl (hb hbytes d39) rfl rfl rfl ?_
      refine XS.aloadN X8.here hexec rfl (hb hbytes d41) rfl rfl ?_
      refine XS.aload X8.here hexec rfl (hb hbytes d42) rfl rfl ?_
      refine XS.iloadN X8.here hexec rfl (hb hbytes d44) rfl ?_
      exact Steps.refl _)
    rw [n4]; exact hc
  obtain ⟨v11, T11, X11, E11, g11⟩ := X8.callS hexec (CodL.law l s.heap.size N) hown (wks W (staticW "java/lang/String" 47 CodL.yN)) (wk W CodL.tab) (W := 1) (Nat.le_of_ble_eq_true rfl) (Nat.le_of_ble_eq_true rfl) (Nat.le_refl _) (by show 0 + len + 0 ≤ len; omega) (g := (mkF m 45 #[.val (.ref a), .val (.ref b), .val (.int (Int32.ofNat o)), .val (.int (Int32.ofNat len)), .val .null, .val (.ref s.heap.size)] [.int (Int32.ofNat N.slots.size), .ref s.heap.size, .ref a])) rfl (by rw [hml]; rfl) c10 (argsL := [.ref s.heap.size, .int (Int32.ofNat N.slots.size)]) (rest := [.ref a]) rfl rfl (by show 2 * 0 + (1 + 0) ≤ _; decide) (hb hbytes d45) (⟨rfl, n1⟩)
  obtain ⟨rfl, q11⟩ := E11
  have hB11 := hB1.mv (X8.warmed.alike.symm.trans X11.warmed.alike) q11
  have c12 : Steps p.tables e below (s₁.setTop (entryFrame m #[.ref a, .ref b, .int (Int32.ofNat o), .int (Int32.ofNat len), .null] 6)) (T11.setTop (mkF m 48 #[.val (.ref a), .val (.ref b), .val (.int (Int32.ofNat o)), .val (.int (Int32.ofNat len)), .val .null, .val (.ref s.heap.size)] [.int 0, .ref a])) := g11
  obtain ⟨T13, X13, p13, bl13, sl13, st13⟩ := X11.finit hexec hown (wk W (.fieldLink "java/lang/String" 15 "java/lang/String" "coder" "B")) (Or.inr ⟨_, (wk W (.laysFinal "java/lang/String" "java/lang/String" "coder" "B"))⟩) (Or.inl ⟨rfl, hnm⟩) f2 (Or.inl rfl) hB11 (t := .byte) (by decide +kernel) rfl (g := (mkF m 48 #[.val (.ref a), .val (.ref b), .val (.int (Int32.ofNat o)), .val (.int (Int32.ofNat len)), .val .null, .val (.ref s.heap.size)] [.int 0, .ref a])) rfl (rest := []) rfl (hb hbytes d48)
  have c14 : Steps p.tables e below (s₁.setTop (entryFrame m #[.ref a, .ref b, .int (Int32.ofNat o), .int (Int32.ofNat len), .null] 6)) (T13.setTop (mkF m 54 #[.val (.ref a), .val (.ref b), .val (.int (Int32.ofNat o)), .val (.int (Int32.ofNat len)), .val .null, .val (.ref s.heap.size)] [.ref s.heap.size, .ref a])) := (c12.trans (st13 _ (Steps.refl _))).trans (by
    refine XS.aloadN X13.here hexec rfl (hb hbytes d51) rfl rfl ?_
    refine XS.aload X13.here hexec rfl (hb hbytes d52) rfl rfl ?_
    exact Steps.refl _)
  obtain ⟨T15, X15, p15, bl15, sl15, st15⟩ := X13.finit hexec hown (wk W (.fieldLink "java/lang/String" 9 "java/lang/String" "value" "[B")) (Or.inr ⟨_, (wk W (.laysFinal "java/lang/String" "java/lang/String" "value" "[B"))⟩) (Or.inl ⟨rfl, hnm⟩) f1 (Or.inl rfl) bl13 (t := (.array .byte)) (by decide +kernel) rfl (g := (mkF m 54 #[.val (.ref a), .val (.ref b), .val (.int (Int32.ofNat o)), .val (.int (Int32.ofNat len)), .val .null, .val (.ref s.heap.size)] [.ref s.heap.size, .ref a])) rfl (rest := []) rfl (hb hbytes d54)
  have c16 : Steps p.tables e below (s₁.setTop (entryFrame m #[.ref a, .ref b, .int (Int32.ofNat o), .int (Int32.ofNat len), .null] 6)) (T15.setTop (mkF m 57 #[.val (.ref a), .val (.ref b), .val (.int (Int32.ofNat o)), .val (.int (Int32.ofNat len)), .val .null, .val (.ref s.heap.size)] [])) := c14.trans (st15 _ (Steps.refl _))
  have ap := apart (Or.inr ⟨_, (wk W (.laysFinal "java/lang/String" "java/lang/String" "value" "[B"))⟩) (Or.inr ⟨_, (wk W (.laysFinal "java/lang/String" "java/lang/String" "coder" "B"))⟩) f1 f2 (t₁ := .array .byte) (t₂ := .byte) (by decide +kernel) (by decide +kernel) (by decide)
  have al := X8.warmed.alike.symm.trans X15.warmed.alike
  have n7 : T11.heap[s.heap.size]? = some N := by rw [q11]; exact n1.1
  exact ⟨T15, none, _, _, _, X15, by simp, rfl, by omega, (fun _ => rfl), ⟨rfl, _, N, bl15, ((Same.refl D _).set _ (by simp)).set _ (by simp), sl15, (Cell.slots_setSlot_ne _ ap).trans sl13, n1.keep al (p15.other hne (p13.other hne n7)), n2, by rw [al.findClass]; exact n3, n4, n5, fun y c h1 h2 => p15.other h1 (p13.other h1 (by rw [q11]; exact n6 y c h2)), by rw [p15.2.2, p13.2.2, q11]; exact z8⟩, fun fs hl => c16.trans (X15.returnOut hexec hret (hb hbytes d57) hl)⟩
end New4
namespace New1
def yN : MethodName := ⟨"java/lang/String", "<init>", "([C)V"⟩
abbrev yB : ByteArray := jdk_42_method_3_code
theorem d0 : decode yB 0 = .ok (.aload_n 0, 1) := by decide +kernel
theorem d1 : decode yB 1 = .ok (.aload_n 1, 1) := by decide +kernel
theorem d2 : decode yB 2 = .ok (.iconst 0, 1) := by decide +kernel
theorem d3 : decode yB 3 = .ok (.aload_n 1, 1) := by decide +kernel
theorem d4 : decode yB 4 = .ok (.arraylength, 1) := by decide +kernel
theorem d5 : decode yB 5 = .ok (.aconst_null, 1) := by decide +kernel
theorem d6 : decode yB 6 = .ok (.invokespecial 27, 3) := by decide +kernel
theorem d9 : decode yB 9 = .ok (.return_, 1) := by decide +kernel
def site : List Cond := [New4.tab] ++ initW "java/lang/String" 27 New4.yN
def tab : Cond := tabOf yN yB 2 none site
def P (a : Addr) (D : Cell) (fV fC : Field) (b : Addr) (A : Cell) (z : Int32) (args : Array Value) (s : State) : Prop := args = #[.ref a, .ref b] ∧ Blank "java/lang/String" a D s ∧ Found "java/lang/String" "value" "[B" fV s ∧ Found "java/lang/String" "coder" "B" fC s ∧ Ch b A s ∧ StaticIs s "java/lang/String" "COMPACT_STRINGS" "Z" (.int z) ∧ ¬ z = 0 ∧ 0 < A.slots.size ∧ A.slots.size ≤ 536870912 ∧ ∀ i, i < A.slots.size → ¬ 255 < cv A i
def E (a : Addr) (D : Cell) (fV fC : Field) (A : Cell) (r : Option Value) (s u : State) : Prop := Got a D fV fC A 0 A.slots.size r s u
/-- new String(chars), not empty, no char above 255: a Latin-1 String of their low bytes -/
theorem law (l : Launch) (a : Addr) (D : Cell) (fV fC : Field) (b : Addr) (A : Cell) (z : Int32) : Law l yN 2 1 3 52 yB 2 none site (P a D fV fC b A z) (E a D fV fC A) [⟨a, fC.slot⟩, ⟨a, fV.slot⟩] 1 A.slots.size := by
  refine Law.of_walk (plainFor_of_name (by decide +kernel)) (by decide +kernel) (by decide +kernel) (by decide) (fun _ _ h => by rw [h.1]; rfl) (fun _ U U' hal hh h => ⟨h.1, h.2.1.mv hal hh, h.2.2.1.al hal, h.2.2.2.1.al hal, h.2.2.2.2.1.mv hal hh, h.2.2.2.2.2.1.there hal hh, h.2.2.2.2.2.2⟩) (fun r U U' V V' h1 hal h2 h => Got.mv r U U' V V' h1 hal h2 h) ?_
  intro p e s m args below meth c s₁ X0 hexec hbytes hml hret hlk hnm hown hh0 W hP
  obtain ⟨rfl, hB, f1, f2, hA, s1, hz, l0, l2, hp⟩ := hP
  have c1 : Steps p.tables e below (s₁.setTop (entryFrame m #[.ref a, .ref b] 2)) (s₁.setTop (mkF m 0 #[.val (.ref a), .val (.ref b)] [])) := entry rfl
  have c2 : Steps p.tables e below (s₁.setTop (entryFrame m #[.ref a, .ref b] 2)) (s₁.setTop (mkF m 6 #[.val (.ref a), .val (.ref b)] [.null, .int (Int32.ofNat A.slots.size), .int 0, .ref b, .ref a])) := c1.trans (by
    refine XS.aloadN X0.here hexec rfl (hb hbytes d0) rfl rfl ?_
    refine XS.aloadN X0.here hexec rfl (hb hbytes d1) rfl rfl ?_
    refine iconstV X0.here hexec rfl 0 (hb hbytes d2) (by decide) ?_
    refine XS.aloadN X0.here hexec rfl (hb hbytes d3) rfl rfl ?_
    refine X0.alen hexec (hA.1.mv X0.warmed.alike hh0) rfl rfl (hb hbytes d4) ?_
    refine XS.aconstNull X0.here hexec rfl (hb hbytes d5) ?_
    exact Steps.refl _)
  obtain ⟨v3, T3, X3, E3, g3⟩ := X0.callN hexec (New4.law l a D fV fC b A z 0 A.slots.size) rfl hown (wks W (initW "java/lang/String" 27 New4.yN)) (W New4.tab (by simp only [site, List.mem_cons, List.mem_append, true_or, or_true])) (W := 0) (Nat.le_of_ble_eq_true rfl) (Nat.le_of_ble_eq_true rfl) (Nat.le_refl _) (by show 0 + A.slots.size ≤ A.slots.size; omega) (g := (mkF m 6 #[.val (.ref a), .val (.ref b)] [.null, .int (Int32.ofNat A.slots.size), .int (Int32.ofNat 0), .ref b, .ref a])) rfl (by rw [hml]; rfl) c2 (argsL := [.ref b, .int (Int32.ofNat 0), .int (Int32.ofNat A.slots.size), .null]) (rest := []) rfl rfl (by show 2 * 0 + 0 ≤ _; decide) (hb hbytes d6) (⟨rfl, hB.mv X0.warmed.alike hh0, f1.al X0.warmed.alike, f2.al X0.warmed.alike, hA.mv X0.warmed.alike hh0, s1.there X0.warmed.alike hh0, hz, l0, by omega, l2, fun i hi => by rw [Nat.zero_add]; exact hp i hi⟩)
  have e0 := Got.mv _ s₁ s _ _ hh0.symm (Vm.Alike.refl _) rfl E3
  obtain rfl := e0.1
  have c4 : Steps p.tables e below (s₁.setTop (entryFrame m #[.ref a, .ref b] 2)) (T3.setTop (mkF m 9 #[.val (.ref a), .val (.ref b)] [])) := g3
  exact ⟨T3, none, _, _, _, X3, by simp, rfl, by omega, (fun _ => rfl), e0, fun fs hl => c4.trans (X3.returnOut hexec hret (hb hbytes d9) hl)⟩
theorem pays {l : Launch} {R : Room} {p : Program} {e : Env} {below : List Frame} {s : State} {sargs : Array Value} {len W : Nat} (a : Addr) (D : Cell) (fV fC : Field) (b : Addr) (A : Cell) (z : Int32) (htab : tab.before sargs s = true) (hfr : 4 ≤ R.frames) (hlo : W + 65 ≤ R.locals) :
    Back l R p e below s sargs yN len W (fun A₁ a₁ => A₁.cells + 1 ≤ R.cells ∧ A₁.slots + A.slots.size ≤ R.slots ∧ P a D fV fC b A z a₁ A₁.U) (fun A₁ _ v₁ B₁ => E a D fV fC A v₁ A₁.U B₁.U ∧ B₁.locs = A₁.locs ++ [⟨a, fC.slot⟩, ⟨a, fV.slot⟩] ∧ B₁.cells = A₁.cells + 1 ∧ B₁.slots = A₁.slots + A.slots.size) :=
  (law l a D fV fC b A z).pays htab hfr (by omega)
end New1
end StrChars
namespace StrChars.Road
open Jvm Sem ClassFile Op Lib Jvm.Stand Jvm.Free Jvm.Free.XT
open Jvm.Lib.Cold (StaticIs)
abbrev ST : String := "java/lang/String"
/-- every table word that New1's law asks, flat -/
abbrev words : List Jvm.Cond := [.code New1.yN New1.yB 2 none, .initialized ST, .methodLink ST 27 New4.yN, .instanceMethod New4.yN,
  .code New4.yN New4.yB 6 none, .fieldLink ST 38 ST "COMPACT_STRINGS" "Z", .laysFinal ST ST "value" "[B", .fieldLink ST 9 ST "value" "[B", .laysFinal ST ST "coder" "B", .fieldLink ST 15 ST "coder" "B",
  .methodLink ST 1 Lib.objectInit, .instanceMethod Lib.objectInit, .code Lib.objectInit ⟨#[0xb1]⟩ 1 none, .methodLink ST 177 Cmp3.yN, .static Cmp3.yN, .methodLink ST 47 CodL.yN, .static CodL.yN,
  .code Cmp3.yN Cmp3.yB 6 (some (.array .byte)), .initialized U16, .arrayClass .byte, .methodLink U16 115 Cmp5.yN, .static Cmp5.yN, .code Cmp5.yN Cmp5.yB 7 (some .int), .code CodL.yN CodL.yB 2 (some .byte)]
theorem tab_of {a : Array Value} {s : State} (h : ∀ w ∈ words, w.before a s = true) : New1.tab.before a s = true := by
  have h5 : Cmp5.tab.before a s = true := unparts (wk h (.code Cmp5.yN Cmp5.yB 7 (some .int))) (wks h (.initialized Cmp5.yN.cls :: Cmp5.site))
  have hc : CodL.tab.before a s = true := unparts (wk h (.code CodL.yN CodL.yB 2 (some .byte))) (wks h (.initialized CodL.yN.cls :: CodL.site))
  have q5 : ∀ w ∈ Cmp5.tab :: words, w.before a s = true := fun w hw => (List.mem_cons.mp hw).elim (fun e => e ▸ h5) (h w)
  have h3 : Cmp3.tab.before a s = true := unparts (wk q5 (.code Cmp3.yN Cmp3.yB 6 (some (.array .byte)))) (wks q5 (.initialized Cmp3.yN.cls :: Cmp3.site))
  have q3 : ∀ w ∈ Cmp3.tab :: CodL.tab :: words, w.before a s = true := fun w hw => (List.mem_cons.mp hw).elim (fun e => e ▸ h3) fun hw => (List.mem_cons.mp hw).elim (fun e => e ▸ hc) (h w)
  have h4 : New4.tab.before a s = true := unparts (wk q3 (.code New4.yN New4.yB 6 none)) (wks q3 (.initialized New4.yN.cls :: New4.site))
  have q4 : ∀ w ∈ New4.tab :: words, w.before a s = true := fun w hw => (List.mem_cons.mp hw).elim (fun e => e ▸ h4) (h w)
  exact unparts (wk q4 (.code New1.yN New1.yB 2 none)) (wks q4 (.initialized New1.yN.cls :: New1.site))
/-- the words ride from the start Z to the walk's own state -/
theorem moved {Z s : State} {a0 args : Array Value} (hZ : Z.Warmed39 s.vm) (hw : ∀ d ∈ words, d.before a0 Z = true) : ∀ d ∈ words, d.before args s = true := fun d hd => by
  have q := hw d hd
  have t : ∀ d ∈ words, d = .arrayClass .byte ∨ (d.onTables && d.keepsFace) = true := by decide +kernel
  rcases t d hd with rfl | t
  · exact RoadKit.mvA hZ q
  · exact RoadKit.mv hZ q t
/-- WHAT COMES BACK, over the tables of the start Z: h the heap at the call, h' behind it -/
def Q (Z : State) (x : Addr) (A : Cell) (h : Heap) (v : Option Value) (h' : Heap) (L : List Loc) : Prop := v = none ∧ (∀ y ∈ L, y.base = x) ∧ RoadKit.Keep h h' [x] ∧ h'.size = h.size + 1 ∧ RoadKit.Exa Z h' x ST ∧ RoadKit.Fld Z h' x ST "value" "[B" (.ref h.size) ∧ RoadKit.Fld Z h' x ST "coder" "B" (.int 0) ∧
  (∃ V : Cell, RoadKit.Arr Z h' h.size V .byte ∧ V.vm = .none ∧ Z.vm.findClass "[B" = some V.cls ∧ V.slots.size = A.slots.size ∧ ∀ j, j < A.slots.size → V.slots[j]? = some (.int (lo8 (cv A j)))) ∧
  ∀ (O n d : String) (w : Value), RoadKit.Fld Z h x O n d w → RoadKit.slotOf Z O n d ≠ RoadKit.slotOf Z ST "value" "[B" → RoadKit.slotOf Z O n d ≠ RoadKit.slotOf Z ST "coder" "B" → RoadKit.Fld Z h' x O n d w
/-- **new String(chars) AT A CALL, IN THE ROAD'S FORM**: for specialBack behind newO: x the fresh String, b the char[] with the cell A -/
theorem back {p : Program} {l : Launch} {e : Env} {R : Room} {s : State} {args : Array Value} {below : List Frame} {len W : Nat} {Z : State} {a0 : Array Value} {h : Heap} (hZ : Z.Warmed39 s.vm) (hw : ∀ d ∈ words, d.before a0 Z = true) {kI : Nat} (wi : (Jvm.Cond.instantiable ST kI).before a0 Z = true)
    {x b : Addr} {A : Cell} {z : Int32} {v0 c0 : Value} (E : RoadKit.Exa Z h x ST) (V : RoadKit.Fld Z h x ST "value" "[B" v0) (C : RoadKit.Fld Z h x ST "coder" "B" c0) (K : RoadKit.Arr Z h b A .char) (hty : Typed .char A) (S : RoadKit.Sta Z h ST "COMPACT_STRINGS" "Z" (.int z)) (hz : ¬ z = 0)
    (l0 : 0 < A.slots.size) (l2 : A.slots.size ≤ 536870912) (hp : ∀ i, i < A.slots.size → ¬ 255 < cv A i) (hfr : 4 ≤ R.frames) (hlo : W + 65 ≤ R.locals) :
    Back l R p e below s args New1.yN len W (fun P a => a = #[.ref x, .ref b] ∧ P.U.heap = h ∧ P.cells + 1 ≤ R.cells ∧ P.slots + A.slots.size ≤ R.slots)
      (fun P _ v B => ∃ L, Q Z x A h v B.U.heap L ∧ B.locs = P.locs ++ L ∧ B.cells = P.cells + 1 ∧ B.slots = P.slots + A.slots.size) := by
  intro m meth c P g ig mk a X hg hsize hdg hW hn hp'
  obtain ⟨rfl, rfl, r1, r2⟩ := hp'
  have al : Z.vm.Alike P.U.vm := hZ.alike.trans X.warmed.alike
  obtain ⟨D, cfV, kV, iV, fV, hD, gV, stV, knV, obV, asV, slV⟩ := id V
  obtain ⟨D', cfC, kC, iC, fC, hD', gC, stC, -, -, asC, slC⟩ := id C
  cases hD.symm.trans hD'
  obtain ⟨D2, kD, e1, e2, e3, e4, e5⟩ := id E
  cases hD.symm.trans e1
  obtain ⟨c2, k2, i1, i2, i3, -⟩ := Cond.instantiable_spec wi
  cases e2.symm.trans i1
  cases e3.symm.trans i2
  obtain ⟨kU, u1, u2⟩ := al.2.2 _ _ e3
  have hB : Blank ST x D P.U := ⟨hD, ⟨knV, fun q hq => by rw [hq] at obV; cases obV⟩, by rw [al.findClass]; exact e2, kU, u1, by rw [u2]; exact i3, by rw [u2]; exact e5 i3⟩
  have F1 : Found ST "value" "[B" fV P.U := ⟨SBG.found_only al ⟨cfV, kV, iV, gV⟩, stV⟩
  have F2 : Found ST "coder" "B" fC P.U := ⟨SBG.found_only al ⟨cfC, kC, iC, gC⟩, stC⟩
  have hA : Ch b A P.U := ⟨⟨K.1, State.isArrayOf_alike al K.2.1, K.2.2, by omega⟩, hty⟩
  have hS : StaticIs P.U ST "COMPACT_STRINGS" "Z" (.int z) := by
    obtain ⟨cfS, iS, kS, fS, st, cS, t1, t2, t3, t4, t5, t6, t7⟩ := S
    exact StaticIs.there (s := { Z with heap := P.U.heap }) ⟨cfS, iS, kS, fS, st, cS, t1, t2, t3, t4, t5, (fun q => by rw [q] at t6; cases t6), t7⟩ al rfl
  obtain ⟨v, B, X', ⟨⟨hv, E', V', q1, q2, q3, q4, q5, q6, q7, q8, q9, q10, q11⟩, hl, hc, hs⟩, st⟩ := New1.pays x D fV fC b A z (tab_of (moved hZ hw)) hfr hlo m meth c P g ig mk _ X hg hsize hdg hW hn ⟨r1, r2, rfl, hB, F1, F2, hA, hS, hz, l0, l2, hp⟩
  have al' : Z.vm.Alike B.U.vm := hZ.alike.trans X'.warmed.alike
  have hsz : E'.slots.size = D.slots.size := by
    obtain ⟨-, -, -, kB, w1, w2, w3⟩ := q1
    obtain ⟨kB', y1, y2⟩ := al'.2.2 _ _ e3
    rw [q2.2.1] at w1
    cases w1.symm.trans y1
    rw [w3, e5 i3, y2]
  refine ⟨v, B, X', ⟨_, ⟨hv, ?_, ⟨by omega, fun y cy hy hn' => q10 y cy (by simpa using hn') hy, fun y cy hy => ?_⟩, q11, ⟨E', _, q1.1, by rw [q2.2.1]; exact e2, by rw [q2.2.1]; exact e3, by rw [q2.1]; exact obV, fun _ => by rw [hsz]; exact e5 i3⟩,
    ⟨E', cfV, kV, iV, fV, q1.1, gV, stV, by rw [q2.1]; exact knV, by rw [q2.1]; exact obV, by rw [q2.2.1]; exact asV, q3⟩, ⟨E', cfC, kC, iC, fC, q1.1, gC, stC, by rw [q2.1]; exact knV, by rw [q2.1]; exact obV, by rw [q2.2.1]; exact asC, q4⟩,
    ⟨V', ⟨q5.1, State.isArrayOf_alike al'.symm q5.2.1, q5.2.2.1⟩, q6, by rw [← al'.findClass]; exact q7, q8, fun j hj => by have := q9 j hj; rwa [Nat.zero_add] at this⟩, fun O n d w F n1 n2 => ?_⟩, hl, hc, hs⟩, st⟩
  · intro y hy
    simp only [List.mem_cons, List.not_mem_nil, or_false] at hy
    rcases hy with rfl | rfl <;> rfl
  · by_cases q : y = x
    · subst q
      cases hD.symm.trans hy
      exact ⟨E', q1.1, q2.2.1, q2.1, hsz⟩
    · exact ⟨cy, q10 y cy q hy, rfl, rfl, rfl⟩
  · obtain ⟨D3, cf, k, i, f, g1, g2, g3, g4, g5, g6, g7⟩ := F
    cases hD.symm.trans g1
    simp only [RoadKit.slotOf, g2, gV, gC, Option.map_some, Option.getD_some] at n1 n2
    exact ⟨E', cf, k, i, f, q1.1, g2, g3, by rw [q2.1]; exact g4, by rw [q2.1]; exact g5, by rw [q2.2.1]; exact g6, by rw [q2.2.2 f.slot (by simp [n1, n2])]; exact g7⟩
end StrChars.Road
namespace StrChars.Road
open Jvm Sem ClassFile Op Lib Jvm.Stand Jvm.Free Jvm.Free.XT
/-- WHAT COMES BACK, the byte[] as a list of values -/
def QA (Z : State) (x : Addr) (zn : Int32) (cs : List Int32) (h : Heap) (v : Option Value) (h' : Heap) (L : List Loc) : Prop := v = none ∧ (∀ y ∈ L, y.base = x) ∧ RoadKit.Keep h h' [x] ∧ h'.size = h.size + 1 ∧ RoadKit.Exa Z h' x ST ∧ RoadKit.Fld Z h' x ST "value" "[B" (.ref h.size) ∧ RoadKit.Fld Z h' x ST "coder" "B" (.int 0) ∧
  (∃ kb, Z.vm.findClass "[B" = some kb ∧ RoadKit.Arv Z h' h.size kb .byte zn (cs.map fun c => .int (lo8 c)) (.int 0)) ∧
  ∀ (O n d : String) (w : Value), RoadKit.Fld Z h x O n d w → RoadKit.slotOf Z O n d ≠ RoadKit.slotOf Z ST "value" "[B" → RoadKit.slotOf Z O n d ≠ RoadKit.slotOf Z ST "coder" "B" → RoadKit.Fld Z h' x O n d w
/-- **new String(chars) AT A CALL, THE ARRAYS AS LISTS**: the char[] at b holds cs, not empty, no char above 255 -/
theorem backArv {p : Program} {l : Launch} {e : Env} {R : Room} {s : State} {args : Array Value} {below : List Frame} {len W : Nat} {Z : State} {a0 : Array Value} {h : Heap} (hZ : Z.Warmed39 s.vm) (hw : ∀ d ∈ words, d.before a0 Z = true) {kI : Nat} (wi : (Jvm.Cond.instantiable ST kI).before a0 Z = true)
    {x b : Addr} {k : ClassId} {zn z : Int32} {cs : List Int32} {dv v0 c0 : Value} (E : RoadKit.Exa Z h x ST) (V : RoadKit.Fld Z h x ST "value" "[B" v0) (C : RoadKit.Fld Z h x ST "coder" "B" c0) (K : RoadKit.Arv Z h b k .char zn (cs.map Value.int) dv) (S : RoadKit.Sta Z h ST "COMPACT_STRINGS" "Z" (.int z)) (hz : ¬ z = 0)
    (hlen : zn.toNatClampNeg = cs.length) (h0 : 0 < cs.length) (hbig : cs.length ≤ 536870912) (hall : ∀ c ∈ cs, ¬ 255 < c) (hfr : 4 ≤ R.frames) (hlo : W + 65 ≤ R.locals) :
    Back l R p e below s args New1.yN len W (fun P a => a = #[.ref x, .ref b] ∧ P.U.heap = h ∧ P.cells + 1 ≤ R.cells ∧ P.slots + cs.length ≤ R.slots)
      (fun P _ v B => ∃ L, QA Z x zn cs h v B.U.heap L ∧ B.locs = P.locs ++ L ∧ B.cells = P.cells + 1 ∧ B.slots = P.slots + cs.length) := by
  obtain ⟨A, K1, K2, K3, K4, K5, K6⟩ := K
  have e : A.slots.size = cs.length := K3.trans hlen
  have hat : ∀ (i : Nat) (hi : i < cs.length), A.slots[i]? = some (.int cs[i]) := fun i hi => by rw [K5 i (by omega)]; simp [List.getD_eq_getElem?_getD, hi]
  have hcv : ∀ (i : Nat) (hi : i < cs.length), cv A i = cs[i] := fun i hi => by unfold cv; rw [hat i hi]
  have hty : Typed .char A := fun i v hv => by
    have hi : i < A.slots.size := (Array.getElem?_eq_some_iff.mp hv).1
    have q := K5 i hi
    rw [hv] at q
    rw [Option.some.inj q]
    exact K6 i hi
  refine Back.mono (back hZ hw wi E V C K1 hty S hz (by omega) (by omega) (fun i hi => by rw [hcv i (by omega)]; exact hall _ (List.getElem_mem _)) hfr hlo) (fun P a hp => ⟨hp.1, hp.2.1, hp.2.2.1, by rw [e]; exact hp.2.2.2⟩) (fun P a v B hp hq => ?_)
  obtain ⟨L, ⟨q1, q2, q3, q4, q5, q6, q7, ⟨V', v1, v2, v3, v4, v5⟩, q9⟩, hl, hc, hs⟩ := hq
  refine ⟨L, ⟨q1, q2, q3, q4, q5, q6, q7, ⟨V'.cls, v3, V', v1, rfl, by rw [v4, e, hlen], K4, fun i hi => ?_, fun i hi => ?_⟩, q9⟩, hl, hc, by rw [hs, e]⟩
  · have hi' : i < cs.length := by omega
    rw [v5 i (by omega), hcv i hi']; simp [List.getD_eq_getElem?_getD, hi']
  · have hi' : i < cs.length := by omega
    simp only [List.getD_eq_getElem?_getD, List.getElem?_map, List.getElem?_eq_getElem hi', Option.map_some, Option.getD_some]
    exact fits_lo8 _
end StrChars.Road
namespace StrChars.Road
open Jvm Sem ClassFile Op Lib Jvm.Stand Jvm.Free Jvm.Free.XT
/-- WHAT COMES BACK, in the writer's own shape -/
def QV (Z : State) (x : Addr) (N : Int32) (bs : List Int32) (h : Heap) (n0 : Nat) (v : Option Value) (h' : Heap) (L : List Loc) : Prop := v = none ∧ RoadKit.Fr n0 L ∧ RoadKit.Keep h h' [x] ∧ RoadKit.Exa Z h' x ST ∧ RoadKit.Fld Z h' x ST "coder" "B" (.int 0) ∧
  ∃ (t : Addr) (kb : ClassId), n0 ≤ t ∧ h.size ≤ t ∧ ¬ t = x ∧ RoadKit.Fld Z h' x ST "value" "[B" (.ref t) ∧ RoadKit.Arv Z h' t kb .byte N (bs.map Value.int) (.int 0)
/-- **new String(chars) AT A CALL, FOR THE WRITER**: a char[] of n known ints, each 0 to 255 -/
theorem backV {p : Program} {l : Launch} {e : Env} {R : Room} {s : State} {args : Array Value} {below : List Frame} {len W : Nat} {Z : State} {a0 : Array Value} {h : Heap} (hZ : Z.Warmed39 s.vm) (hw : ∀ d ∈ words, d.before a0 Z = true) {kI : Nat} (wi : (Jvm.Cond.instantiable ST kI).before a0 Z = true)
    {x b : Addr} {kC : ClassId} {cs bs : List Int32} {d v0 c0 : Value} {z N : Int32} {n n0 : Nat} (hx0 : n0 ≤ x) (hh0 : n0 ≤ h.size) (E : RoadKit.Exa Z h x ST) (V : RoadKit.Fld Z h x ST "value" "[B" v0) (C : RoadKit.Fld Z h x ST "coder" "B" c0) (K : RoadKit.Arv Z h b kC .char N (cs.map Value.int) d) (S : RoadKit.Sta Z h ST "COMPACT_STRINGS" "Z" (.int z)) (hz : ¬ z = 0)
    (hn : cs.length = n) (hN : N = Int32.ofNat n) (l0 : 0 < n) (l2 : n ≤ 4000) (hp : ∀ c ∈ cs, ¬ c < 0 ∧ ¬ (255 : Int32) < c) (hb : bs = cs.map (fun c => c.toInt8.toInt32)) (hfr : 4 ≤ R.frames) (hlo : W + 65 ≤ R.locals) :
    Back l R p e below s args (⟨"java/lang/String", "<init>", "([C)V"⟩ : MethodName) len W (fun P a => a = #[.ref x, .ref b] ∧ P.U.heap = h ∧ P.cells + 1 ≤ R.cells ∧ P.slots + n ≤ R.slots)
      (fun P _ v B => ∃ L, QV Z x N bs h n0 v B.U.heap L ∧ B.locs = P.locs ++ L ∧ B.cells = P.cells + 1 ∧ B.slots = P.slots + n) := by
  subst hn hN hb
  refine Back.mono (backArv hZ hw wi E V C K S hz (n32 (by omega)) l0 (by omega) (fun c hc => (hp c hc).2) hfr hlo) (fun P a hp => hp) (fun P a v B hp hq => ?_)
  obtain ⟨L, ⟨q1, q2, q3, q4, q5, q6, q7, ⟨kb, v1, v2⟩, q9⟩, hl, hc, hs⟩ := hq
  exact ⟨L, ⟨q1, fun y hy => by rw [q2 y hy]; exact hx0, q3, q5, q7, h.size, kb, hh0, Nat.le_refl _, Nat.ne_of_gt E.lt, q6, by rw [List.map_map]; exact v2⟩, hl, hc, hs⟩
end StrChars.Road
end Jvm.Pilot.@@N@@
namespace Jvm.Own
open Sem ClassFile Op Lib Jvm.Stand Jvm.Free Jvm.LawKit Jvm.RoadKit
/-- from the frame g, standing in T, the run ends in what P says -/
def Goes (p : Program) (e : Env) (below : List Frame) (P : Outcome → State → Prop) (T : State) (g : JFrame) : Prop :=
  ∃ s₂ o, Steps p.tables e below (T.setTop g) s₂ ∧ s₂.status = .running ∧ Ended s₂ below o ∧ P o s₂
/-- what a body leaves -/
abbrev Leaves (s : State) (Q : Option Value → Heap → List Loc → Prop) (C N : Nat) (o : Outcome) (U : State) : Prop := ∃ v L, o = .returned v ∧ Q v U.heap L ∧ FrameEnd s o U L C N
/-- a body's contract, asked at the arguments 'as' and the heap h0 -/
abbrev Pays (l : Launch) (Z : State) (y : MethodName) (bytes : ByteArray) (maxL : Nat) (ret : Option FieldType) (ws : List Jvm.Cond) (rm : Room) (as : Array Value) (h0 : Heap) (Q : Option Value → Heap → List Loc → Prop) : Prop :=
  MetFree l y (head1 (Jvm.Cond.code y bytes maxL ret :: ws) rm) (fun a U => a = as ∧ Z.Warmed39 U.vm ∧ U.heap = h0) (fun _ _ _ _ _ => True) (fun _ U o U' => ∃ v L, o = .returned v ∧ Q v U'.heap L ∧ FrameEnd U o U' L rm.cells rm.slots)
section Steps
variable {p : Program} {l : Launch} {e : Env} {R : Room} {s : State} {m : MethodId} {args : Array Value} {below : List Frame} {meth : Method} {c : Code} {T T' : State} {locs : List Loc} {cells slots : Nat} {Z : State} {a0 : Array Value} {h : Heap} {P : Outcome → State → Prop} {g g' : JFrame}
theorem Goes.on (st : ∀ t, Steps p.tables e below (T'.setTop g') t → Steps p.tables e below (T.setTop g) t) (k : Goes p e below P T' g') : Goes p e below P T g := by
  obtain ⟨s₂, o, h1, h2⟩ := k
  exact ⟨s₂, o, st _ h1, h2⟩
theorem Goes.joinB {fr : Int32 → JFrame} (k : ∀ z, (z = 0 ∨ z = 1) → Goes p e below P T' (fr z)) (u : (∀ z, (z = 0 ∨ z = 1) → Goes p e below P T' (fr z)) → Goes p e below P T g) : Goes p e below P T g := u k
theorem Goes.joinI {fr : Int32 → JFrame} (k : ∀ z, Goes p e below P T' (fr z)) (u : (∀ z, Goes p e below P T' (fr z)) → Goes p e below P T g) : Goes p e below P T g := u k
theorem Goes.joinJ {fr : Int64 → JFrame} (k : ∀ z, Goes p e below P T' (fr z)) (u : (∀ z, Goes p e below P T' (fr z)) → Goes p e below P T g) : Goes p e below P T g := u k
theorem Goes.joinR {fr : Addr → JFrame} (k : ∀ z, Goes p e below P T' (fr z)) (u : (∀ z, Goes p e below P T' (fr z)) → Goes p e below P T g) : Goes p e below P T g := u k
theorem Goes.joinT (X : Stand p l e R s m args below meth c T locs cells slots) {fr : Addr → JFrame} (k : ∀ z T', Stand p l e R s m args below meth c T' locs cells slots → T'.heap = h → Goes p e below P T' (fr z)) (u : (∀ z T', Stand p l e R s m args below meth c T' locs cells slots → T'.heap = h → Goes p e below P T' (fr z)) → Goes p e below P T g) : Goes p e below P T g := u k
theorem Goes.out {Q : Option Value → Heap → List Loc → Prop} {C N : Nat} (X : Stand p l e R s m args below meth c T locs cells slots) {v : Option Value} (hv : meth.sig.returnType = none → v = none) (hlk : meth.locks = false) (hc : cells ≤ C) (hs : slots ≤ N) (hq : Q v T.heap locs)
    (st : ∀ fs, (∀ (f : JFrame) (acts : List Action), f.method = m → f.locked = none → f.entered = [] → (doReturn e (T.setTop f) acts v).1 = T.setFrames fs) → Steps p.tables e below (T.setTop g) (T.setFrames fs)) : Goes p e below (Leaves s Q C N) T g := by
  obtain ⟨fs, hr, hrun, hended, hW, hsame⟩ := X.leave (v := v) hv hlk
  exact ⟨_, _, st fs hr, hrun, hended, v, locs, rfl, hq, ⟨_, rfl⟩, hW, hsame.mono hc hs⟩
theorem Goes.retV {Q : Option Value → Heap → List Loc → Prop} {C N : Nat} (X : Stand p l e R s m args below meth c T locs cells slots) (hx : p.tables.exec = Jvm.exec) (hlk : meth.locks = false) (hret : meth.sig.returnType = none) {pc : Nat} {Ls : Array Slot} (hd : decode c.code pc = .ok (.return_, 1)) (hc : cells ≤ C) (hs : slots ≤ N) (hq : Q none T.heap locs) :
    Goes p e below (Leaves s Q C N) T (mkF m pc Ls []) :=
  Goes.out X (fun _ => rfl) hlk hc hs hq fun _ hr => X.returnOut hx hret hd hr
theorem Goes.retW {Q : Option Value → Heap → List Loc → Prop} {C N : Nat} (X : Stand p l e R s m args below meth c T locs cells slots) (hx : p.tables.exec = Jvm.exec) (hlk : meth.locks = false) {t : FieldType} {i : Instr} {w : Value} (hret : meth.sig.returnType = some t) {pc : Nat} {Ls : Array Slot} {rest : List Value} (hn : narrow t w = w)
    (hi : (i = .ireturn ∧ (t = .int ∨ t = .boolean ∨ t = .byte ∨ t = .char ∨ t = .short) ∧ ∃ z, w = .int z) ∨ (i = .lreturn ∧ t = .long ∧ ∃ z, w = .long z) ∨ (i = .dreturn ∧ t = .double ∧ ∃ z, w = .double z) ∨ (i = .freturn ∧ t = .float ∧ ∃ z, w = .float z) ∨ (i = .areturn ∧ t.isReference = true ∧ w.isRef = true))
    (hd : decode c.code pc = .ok (i, 1)) (hc : cells ≤ C) (hs : slots ≤ N) (hq : Q (some w) T.heap locs) : Goes p e below (Leaves s Q C N) T (mkF m pc Ls (w :: rest)) :=
  Goes.out X (fun h => by rw [hret] at h; cases h) hlk hc hs hq fun _ hr => retOut X hx hret hn hi hd hr
theorem Goes.retI {Q : Option Value → Heap → List Loc → Prop} {C N : Nat} (X : Stand p l e R s m args below meth c T locs cells slots) (hx : p.tables.exec = Jvm.exec) (hlk : meth.locks = false) {z : Int32} (hret : meth.sig.returnType = some .int) {pc : Nat} {Ls : Array Slot} {rest : List Value} (hd : decode c.code pc = .ok (.ireturn, 1)) (hc : cells ≤ C) (hs : slots ≤ N) (hq : Q (some (.int z)) T.heap locs) :
    Goes p e below (Leaves s Q C N) T (mkF m pc Ls (.int z :: rest)) := Goes.retW X hx hlk hret rfl (Or.inl ⟨rfl, Or.inl rfl, _, rfl⟩) hd hc hs hq
theorem Goes.retB {Q : Option Value → Heap → List Loc → Prop} {C N : Nat} (X : Stand p l e R s m args below meth c T locs cells slots) (hx : p.tables.exec = Jvm.exec) (hlk : meth.locks = false) {z : Int32} (hret : meth.sig.returnType = some .boolean) {pc : Nat} {Ls : Array Slot} {rest : List Value} (hz : z = 0 ∨ z = 1) (hd : decode c.code pc = .ok (.ireturn, 1)) (hc : cells ≤ C) (hs : slots ≤ N) (hq : Q (some (.int z)) T.heap locs) :
    Goes p e below (Leaves s Q C N) T (mkF m pc Ls (.int z :: rest)) := Goes.retW X hx hlk hret (by rcases hz with rfl | rfl <;> rfl) (Or.inl ⟨rfl, Or.inr (Or.inl rfl), _, rfl⟩) hd hc hs hq
theorem Goes.retC {Q : Option Value → Heap → List Loc → Prop} {C N : Nat} (X : Stand p l e R s m args below meth c T locs cells slots) (hx : p.tables.exec = Jvm.exec) (hlk : meth.locks = false) {z : Int32} (hret : meth.sig.returnType = some .char) {pc : Nat} {Ls : Array Slot} {rest : List Value} (hz : nar .char z = z) (hd : decode c.code pc = .ok (.ireturn, 1)) (hc : cells ≤ C) (hs : slots ≤ N) (hq : Q (some (.int z)) T.heap locs) :
    Goes p e below (Leaves s Q C N) T (mkF m pc Ls (.int z :: rest)) := Goes.retW X hx hlk hret (by show Value.int (nar .char z) = _; rw [hz]) (Or.inl ⟨rfl, Or.inr (Or.inr (Or.inr (Or.inl rfl))), _, rfl⟩) hd hc hs hq
theorem Goes.retY {Q : Option Value → Heap → List Loc → Prop} {C N : Nat} (X : Stand p l e R s m args below meth c T locs cells slots) (hx : p.tables.exec = Jvm.exec) (hlk : meth.locks = false) {z : Int32} (hret : meth.sig.returnType = some .byte) {pc : Nat} {Ls : Array Slot} {rest : List Value} (hz : nar .byte z = z) (hd : decode c.code pc = .ok (.ireturn, 1)) (hc : cells ≤ C) (hs : slots ≤ N) (hq : Q (some (.int z)) T.heap locs) :
    Goes p e below (Leaves s Q C N) T (mkF m pc Ls (.int z :: rest)) := Goes.retW X hx hlk hret (by show Value.int (nar .byte z) = _; rw [hz]) (Or.inl ⟨rfl, Or.inr (Or.inr (Or.inl rfl)), _, rfl⟩) hd hc hs hq
theorem Goes.retJ {Q : Option Value → Heap → List Loc → Prop} {C N : Nat} (X : Stand p l e R s m args below meth c T locs cells slots) (hx : p.tables.exec = Jvm.exec) (hlk : meth.locks = false) {z : Int64} (hret : meth.sig.returnType = some .long) {pc : Nat} {Ls : Array Slot} {rest : List Value} (hd : decode c.code pc = .ok (.lreturn, 1)) (hc : cells ≤ C) (hs : slots ≤ N) (hq : Q (some (.long z)) T.heap locs) :
    Goes p e below (Leaves s Q C N) T (mkF m pc Ls (.long z :: rest)) := Goes.retW X hx hlk hret rfl (Or.inr (Or.inl ⟨rfl, rfl, _, rfl⟩)) hd hc hs hq
theorem Goes.retD {Q : Option Value → Heap → List Loc → Prop} {C N : Nat} (X : Stand p l e R s m args below meth c T locs cells slots) (hx : p.tables.exec = Jvm.exec) (hlk : meth.locks = false) {z : UInt64} (hret : meth.sig.returnType = some .double) {pc : Nat} {Ls : Array Slot} {rest : List Value} (hd : decode c.code pc = .ok (.dreturn, 1)) (hc : cells ≤ C) (hs : slots ≤ N) (hq : Q (some (.double z)) T.heap locs) :
    Goes p e below (Leaves s Q C N) T (mkF m pc Ls (.double z :: rest)) := Goes.retW X hx hlk hret rfl (Or.inr (Or.inr (Or.inl ⟨rfl, rfl, _, rfl⟩))) hd hc hs hq
theorem Goes.retA {Q : Option Value → Heap → List Loc → Prop} {C N : Nat} (X : Stand p l e R s m args below meth c T locs cells slots) (hx : p.tables.exec = Jvm.exec) (hlk : meth.locks = false) {w : Value} {t : FieldType} (hret : meth.sig.returnType = some t) (ht : t.isReference = true) (hw : w.isRef = true) {pc : Nat} {Ls : Array Slot} {rest : List Value} (hd : decode c.code pc = .ok (.areturn, 1)) (hc : cells ≤ C) (hs : slots ≤ N) (hq : Q (some w) T.heap locs) :
    Goes p e below (Leaves s Q C N) T (mkF m pc Ls (w :: rest)) := Goes.retW X hx hlk hret (by cases t <;> first | rfl | cases ht) (Or.inr (Or.inr (Or.inr (Or.inr ⟨rfl, ht, hw⟩)))) hd hc hs hq
/-- a body's contract out of its walk -/
theorem Pays.walk {y : MethodName} {bytes : ByteArray} {maxL : Nat} {ret : Option FieldType} {ws : List Jvm.Cond} {rm : Room} {as : Array Value} {h0 : Heap} {Q : Option Value → Heap → List Loc → Prop} {Ls : Array Slot}
    (hn : plainFor y = true) (hef : ∀ m, entryFrame m as maxL = mkF m 0 Ls [])
    (body : ∀ (p : Program) (e : Env) (s : State) (m : MethodId) (below : List Frame) (meth : Method) (c : Code) (T : State), Stand p l e rm s m as below meth c T [] 0 0 → p.tables.exec = Jvm.exec → c.code = bytes → c.maxLocals = maxL → s.vm.findClass y.cls = some m.cls → meth.name = y.name → Z.Warmed39 s.vm → T.heap = h0 → meth.sig.returnType = ret → meth.locks = false →
      Goes p e below (Leaves s Q rm.cells rm.slots) T (mkF m 0 Ls [])) : Pays l Z y bytes maxL ret ws rm as h0 Q := by
  refine MetFree.of_bodySF hn hisR ?_
  intro p e s m args below meth c s₁ Bd hml0 hP hK
  obtain ⟨rfl, hZ, hh⟩ := hP
  have X0 : Stand p l e rm s m args below meth c s₁ [] 0 0 := Stand.of_body Bd
  obtain ⟨s₂, o, h1, h2⟩ := body p e s m below meth c s₁ X0 Bd.exec Bd.bytes hml0 (findClass_of_methodNamed Bd.named) (name_of_methodNamed Bd.named Bd.method).1 hZ (by rw [← hh, Bd.state]; rfl) Bd.returns Bd.notSynchronized
  exact ⟨s₂, o, castTop (hef m) h1, h2⟩
/-- a static call by its contract -/
theorem Goes.callS (X : Stand p l e R s m args below meth c T locs cells slots) (hx : p.tables.exec = Jvm.exec) (hZ : Z.Warmed39 s.vm) {own : String} {index : Nat} {y : MethodName} {bytes : ByteArray} {maxL : Nat} {ret : Option FieldType} {rm : Room} {as' : Array Value} {Q : Option Value → Heap → List Loc → Prop} (W : Nat)
    (hown : s.vm.findClass own = some m.cls) (w1 : (Jvm.Cond.methodLink own index y).before a0 Z = true) (w2 : (Jvm.Cond.static y).before a0 Z = true) (w3 : (Jvm.Cond.initialized y.cls).before a0 Z = true) (w4 : (Jvm.Cond.code y bytes maxL ret).before a0 Z = true) (hy : y.cls ≠ "java/lang/invoke/MethodHandle" ∧ y.cls ≠ "java/lang/invoke/VarHandle")
    (eT : T.heap = h) (hM : Pays l Z y bytes maxL ret [] rm as' h Q) (hf : rm.frames + 1 ≤ R.frames) (hl : W + (maxL + 11) + rm.locals ≤ R.locals) (hc : cells + rm.cells ≤ R.cells) (hs : slots + rm.slots ≤ R.slots)
    (hg : g.method = m) (hsize : g.locals.size = c.maxLocals) {argsL rest : List Value} (has : argsL.toArray = as') (hlen : ∀ sig, parseMethodDescriptor y.desc = some sig → argsL.length = sig.parameters.length) (hstack : g.stack = argsL.reverse ++ rest) (hW : 2 * g.monitorRoom + (rest.map fun v => v.category).sum ≤ W)
    (hd : decode c.code g.pc = .ok (.invokestatic index, 3))
    (k : ∀ v T' L, Stand p l e R s m args below meth c T' (locs ++ L) (cells + rm.cells) (slots + rm.slots) → Q v T'.heap L → Goes p e below P T' { g with pc := g.pc + 3, stack := v.toList ++ rest }) : Goes p e below P T g := by
  obtain ⟨v, _, ⟨T', L', k', n'⟩, -, X', ⟨Lc, hQ, l', y', z'⟩, st⟩ := Jvm.LawKit.callS X hx hown (mvT hZ w1) (mvT hZ w2) (mvT hZ w3) (mvT hZ w4) hy (backOf (W := W) hM hZ w4 w3 hf hl) hg hsize (argsL := argsL) (rest := rest) hlen hstack hW hd (fun _ _ => ⟨has, eT, hc, hs⟩)
  dsimp only [Pt.U, Pt.locs, Pt.cells, Pt.slots] at X' l' y' z' st hQ
  subst l' y' z'
  exact Goes.on st (k v T' Lc X' hQ)
/-- a constructor by its contract -/
theorem Goes.callC (X : Stand p l e R s m args below meth c T locs cells slots) (hx : p.tables.exec = Jvm.exec) (hZ : Z.Warmed39 s.vm) {own : String} {index : Nat} {y : MethodName} {bytes : ByteArray} {maxL : Nat} {rm : Room} {as' : Array Value} {Q : Option Value → Heap → List Loc → Prop} (W : Nat) (hy1 : y.name = "<init>")
    (hown : s.vm.findClass own = some m.cls) (w1 : (Jvm.Cond.methodLink own index y).before a0 Z = true) (w2 : (Jvm.Cond.instanceMethod y).before a0 Z = true) (w3 : (Jvm.Cond.initialized y.cls).before a0 Z = true) (w4 : (Jvm.Cond.code y bytes maxL none).before a0 Z = true) (hy : y.cls ≠ "java/lang/invoke/MethodHandle" ∧ y.cls ≠ "java/lang/invoke/VarHandle")
    (eT : T.heap = h) (hM : Pays l Z y bytes maxL none [] rm as' h Q) (hf : rm.frames + 1 ≤ R.frames) (hl : W + (maxL + 11) + rm.locals ≤ R.locals) (hc : cells + rm.cells ≤ R.cells) (hs : slots + rm.slots ≤ R.slots)
    (hg : g.method = m) (hsize : g.locals.size = c.maxLocals) {a : Addr} {argsL rest : List Value} (has : (Value.ref a :: argsL).toArray = as') (hlen : ∀ sig, parseMethodDescriptor y.desc = some sig → argsL.length = sig.parameters.length) (hstack : g.stack = argsL.reverse ++ .ref a :: rest) (hW : 2 * g.monitorRoom + (rest.map fun v => v.category).sum ≤ W)
    (hd : decode c.code g.pc = .ok (.invokespecial index, 3))
    (k : ∀ v T' L, Stand p l e R s m args below meth c T' (locs ++ L) (cells + rm.cells) (slots + rm.slots) → Q v T'.heap L → Goes p e below P T' { g with pc := g.pc + 3, stack := v.toList ++ rest }) : Goes p e below P T g := by
  obtain ⟨v, _, ⟨T', L', k', n'⟩, -, X', ⟨Lc, hQ, l', y', z'⟩, st⟩ := X.specialBack hx (y := y) hy1 hown (mvT hZ w1) (mvT hZ w2) (mvT hZ w4) hy (backOf (W := W) hM hZ w4 w3 hf hl) hg hsize (Steps.refl _) (a := a) (argsL := argsL) (rest := rest) hlen hstack hW hd (fun _ _ => ⟨has, eT, hc, hs⟩)
  dsimp only [Pt.U, Pt.locs, Pt.cells, Pt.slots] at X' l' y' z' st hQ
  subst l' y' z'
  exact Goes.on (fun _ q => st.trans q) (k v T' Lc X' hQ)
/-- an instance method by its contract, on an object of the class C -/
theorem Goes.callV (X : Stand p l e R s m args below meth c T locs cells slots) (hx : p.tables.exec = Jvm.exec) (hZ : Z.Warmed39 s.vm) {own C : String} {index : Nat} {y z : MethodName} {bytes : ByteArray} {maxL : Nat} {ret : Option FieldType} {rm : Room} {as' : Array Value} {Q : Option Value → Heap → List Loc → Prop} (W : Nat)
    (hown : s.vm.findClass own = some m.cls) (w1 : (Jvm.Cond.methodLink own index y).before a0 Z = true) (w2 : (Jvm.Cond.declares y).before a0 Z = true) (hnf : NotFace s y) (w5 : (Jvm.Cond.selects C y z).before a0 Z = true) (w6 : (Jvm.Cond.instanceMethod z).before a0 Z = true) (w3 : (Jvm.Cond.initialized z.cls).before a0 Z = true) (w4 : (Jvm.Cond.code z bytes maxL ret).before a0 Z = true) (hy : y.cls ≠ "java/lang/invoke/MethodHandle" ∧ y.cls ≠ "java/lang/invoke/VarHandle")
    (eT : T.heap = h) {a : Addr} (E : Exa Z h a C) (hM : Pays l Z z bytes maxL ret [] rm as' h Q) (hf : rm.frames + 1 ≤ R.frames) (hl : W + (maxL + 11) + rm.locals ≤ R.locals) (hc : cells + rm.cells ≤ R.cells) (hs : slots + rm.slots ≤ R.slots)
    (hg : g.method = m) (hsize : g.locals.size = c.maxLocals) {argsL rest : List Value} (has : (Value.ref a :: argsL).toArray = as') (hlen : ∀ sig, parseMethodDescriptor y.desc = some sig → argsL.length = sig.parameters.length) (hstack : g.stack = argsL.reverse ++ .ref a :: rest) (hW : 2 * g.monitorRoom + (rest.map fun v => v.category).sum ≤ W)
    (hd : decode c.code g.pc = .ok (.invokevirtual index, 3))
    (k : ∀ v T' L, Stand p l e R s m args below meth c T' (locs ++ L) (cells + rm.cells) (slots + rm.slots) → Q v T'.heap L → Goes p e below P T' { g with pc := g.pc + 3, stack := v.toList ++ rest }) : Goes p e below P T g := by
  obtain ⟨cq, kq, qa, qb, qc⟩ := isOf hZ eT E
  obtain ⟨v, _, ⟨T', L', k', n'⟩, -, X', ⟨Lc, hQ, l', y', z'⟩, st⟩ := X.virtualBack hx (y := y) (z := z) hown (mvT hZ w1) (mvT hZ w2) hnf (mvT hZ w5) (mvT hZ w6) hy (backOf (W := W) hM hZ w4 w3 hf hl) qa qc hg hsize (Steps.refl _) (argsL := argsL) (rest := rest) hlen hstack hW hd (fun _ _ => ⟨has, eT, hc, hs⟩)
  dsimp only [Pt.U, Pt.locs, Pt.cells, Pt.slots] at X' l' y' z' st hQ
  subst l' y' z'
  exact Goes.on (fun _ q => st.trans q) (k v T' Lc X' hQ)
/-- what a ready payer (Back) asks and gives -/
abbrev Payer (l : Launch) (R : Room) (p : Program) (e : Env) (below : List Frame) (s : State) (args : Array Value) (y : MethodName) (W : Nat) (as' : Array Value) (h : Heap) (C N : Nat) (Q : Option Value → Heap → List Loc → Prop) : Prop :=
  Back l R p e below s args y 3 W (fun A a => a = as' ∧ A.U.heap = h ∧ A.cells + C ≤ R.cells ∧ A.slots + N ≤ R.slots) (fun A _ v B => ∃ L, Q v B.U.heap L ∧ B.locs = A.locs ++ L ∧ B.cells = A.cells + C ∧ B.slots = A.slots + N)
theorem Goes.callVB (X : Stand p l e R s m args below meth c T locs cells slots) (hx : p.tables.exec = Jvm.exec) (hZ : Z.Warmed39 s.vm) {own C : String} {index : Nat} {y z : MethodName} {as' : Array Value} {Q : Option Value → Heap → List Loc → Prop} {W nc ns : Nat}
    (hown : s.vm.findClass own = some m.cls) (w1 : (Jvm.Cond.methodLink own index y).before a0 Z = true) (w2 : (Jvm.Cond.declares y).before a0 Z = true) (hnf : NotFace s y) (w5 : (Jvm.Cond.selects C y z).before a0 Z = true) (w6 : (Jvm.Cond.instanceMethod z).before a0 Z = true) (hy : y.cls ≠ "java/lang/invoke/MethodHandle" ∧ y.cls ≠ "java/lang/invoke/VarHandle")
    (eT : T.heap = h) {a : Addr} (E : Exa Z h a C) (hK : Payer l R p e below s args z W as' h nc ns Q) (hc : cells + nc ≤ R.cells) (hs : slots + ns ≤ R.slots)
    (hg : g.method = m) (hsize : g.locals.size = c.maxLocals) {argsL rest : List Value} (has : (Value.ref a :: argsL).toArray = as') (hlen : ∀ sig, parseMethodDescriptor y.desc = some sig → argsL.length = sig.parameters.length) (hstack : g.stack = argsL.reverse ++ .ref a :: rest) (hW : 2 * g.monitorRoom + (rest.map fun v => v.category).sum ≤ W)
    (hd : decode c.code g.pc = .ok (.invokevirtual index, 3))
    (k : ∀ v T' L, Stand p l e R s m args below meth c T' (locs ++ L) (cells + nc) (slots + ns) → Q v T'.heap L → Goes p e below P T' { g with pc := g.pc + 3, stack := v.toList ++ rest }) : Goes p e below P T g := by
  obtain ⟨cq, kq, qa, qb, qc⟩ := isOf hZ eT E
  obtain ⟨v, _, ⟨T', L', k', n'⟩, -, X', ⟨Lc, hQ, l', y', z'⟩, st⟩ := X.virtualBack hx (y := y) (z := z) hown (mvT hZ w1) (mvT hZ w2) hnf (mvT hZ w5) (mvT hZ w6) hy hK qa qc hg hsize (Steps.refl _) (argsL := argsL) (rest := rest) hlen hstack hW hd (fun _ _ => ⟨has, eT, hc, hs⟩)
  dsimp only [Pt.U, Pt.locs, Pt.cells, Pt.slots] at X' l' y' z' st hQ
  subst l' y' z'
  exact Goes.on (fun _ q => st.trans q) (k v T' Lc X' hQ)
theorem Goes.callCB (X : Stand p l e R s m args below meth c T locs cells slots) (hx : p.tables.exec = Jvm.exec) (hZ : Z.Warmed39 s.vm) {own : String} {index : Nat} {y : MethodName} {bytes : ByteArray} {maxL : Nat} {as' : Array Value} {Q : Option Value → Heap → List Loc → Prop} {W nc ns : Nat} (hy1 : y.name = "<init>")
    (hown : s.vm.findClass own = some m.cls) (w1 : (Jvm.Cond.methodLink own index y).before a0 Z = true) (w2 : (Jvm.Cond.instanceMethod y).before a0 Z = true) (w4 : (Jvm.Cond.code y bytes maxL none).before a0 Z = true) (hy : y.cls ≠ "java/lang/invoke/MethodHandle" ∧ y.cls ≠ "java/lang/invoke/VarHandle")
    (eT : T.heap = h) (hK : Payer l R p e below s args y W as' h nc ns Q) (hc : cells + nc ≤ R.cells) (hs : slots + ns ≤ R.slots)
    (hg : g.method = m) (hsize : g.locals.size = c.maxLocals) {a : Addr} {argsL rest : List Value} (has : (Value.ref a :: argsL).toArray = as') (hlen : ∀ sig, parseMethodDescriptor y.desc = some sig → argsL.length = sig.parameters.length) (hstack : g.stack = argsL.reverse ++ .ref a :: rest) (hW : 2 * g.monitorRoom + (rest.map fun v => v.category).sum ≤ W)
    (hd : decode c.code g.pc = .ok (.invokespecial index, 3))
    (k : ∀ v T' L, Stand p l e R s m args below meth c T' (locs ++ L) (cells + nc) (slots + ns) → Q v T'.heap L → Goes p e below P T' { g with pc := g.pc + 3, stack := v.toList ++ rest }) : Goes p e below P T g := by
  obtain ⟨v, _, ⟨T', L', k', n'⟩, -, X', ⟨Lc, hQ, l', y', z'⟩, st⟩ := X.specialBack hx (y := y) hy1 hown (mvT hZ w1) (mvT hZ w2) (mvT hZ w4) hy hK hg hsize (Steps.refl _) (a := a) (argsL := argsL) (rest := rest) hlen hstack hW hd (fun _ _ => ⟨has, eT, hc, hs⟩)
  dsimp only [Pt.U, Pt.locs, Pt.cells, Pt.slots] at X' l' y' z' st hQ
  subst l' y' z'
  exact Goes.on (fun _ q => st.trans q) (k v T' Lc X' hQ)
/-- a private instance method (invokevirtual) by its contract -/
theorem Goes.callP (X : Stand p l e R s m args below meth c T locs cells slots) (hx : p.tables.exec = Jvm.exec) (hZ : Z.Warmed39 s.vm) {own C : String} {index ni : Nat} {y : MethodName} {bytes : ByteArray} {maxL : Nat} {ret : Option FieldType} {rm : Room} {as' : Array Value} {Q : Option Value → Heap → List Loc → Prop} (W : Nat)
    (hown : s.vm.findClass own = some m.cls) (w1 : (Jvm.Cond.methodLink own index y).before a0 Z = true) (w6 : (Jvm.Cond.instanceMethod y).before a0 Z = true) (wp : (Jvm.Cond.privateMethod y).before a0 Z = true) (wi : (Jvm.Cond.instantiable y.cls ni).before a0 Z = true) (w3 : (Jvm.Cond.initialized y.cls).before a0 Z = true) (w4 : (Jvm.Cond.code y bytes maxL ret).before a0 Z = true) (hy : y.cls ≠ "java/lang/invoke/MethodHandle" ∧ y.cls ≠ "java/lang/invoke/VarHandle")
    (eT : T.heap = h) {a : Addr} (E : Exa Z h a C) (hM : Pays l Z y bytes maxL ret [] rm as' h Q) (hf : rm.frames + 1 ≤ R.frames) (hl : W + (maxL + 11) + rm.locals ≤ R.locals) (hc : cells + rm.cells ≤ R.cells) (hs : slots + rm.slots ≤ R.slots)
    (hg : g.method = m) (hsize : g.locals.size = c.maxLocals) {argsL rest : List Value} (has : (Value.ref a :: argsL).toArray = as') (hlen : ∀ sig, parseMethodDescriptor y.desc = some sig → argsL.length = sig.parameters.length) (hstack : g.stack = argsL.reverse ++ .ref a :: rest) (hW : 2 * g.monitorRoom + (rest.map fun v => v.category).sum ≤ W)
    (hd : decode c.code g.pc = .ok (.invokevirtual index, 3))
    (k : ∀ v T' L, Stand p l e R s m args below meth c T' (locs ++ L) (cells + rm.cells) (slots + rm.slots) → Q v T'.heap L → Goes p e below P T' { g with pc := g.pc + 3, stack := v.toList ++ rest }) : Goes p e below P T g := by
  obtain ⟨ce, hce, hst⟩ := E.cell
  have hp := Cond.privateMethod_at (args := args) (mvP hZ wp)
  obtain ⟨ci, ki, i1, i2, -, i4, -⟩ := Cond.instantiable_spec (mvT (args := args) hZ wi)
  have i5 : ki.isInterface = false := by cases hq : ki.isInterface <;> simp [hq] at i4 ⊢
  have hsel := selects_self_of_private (args := args) i1 i2 i5 hp (mvT hZ w6) hy
  obtain ⟨v, _, ⟨T', L', k', n'⟩, -, X', ⟨Lc, hQ, l', y', z'⟩, st⟩ := X.privateBack hx (y := y) hown (mvT hZ w1) (mvT hZ w6) hsel hp (mvT hZ w4) hy (backOf (W := W) hM hZ w4 w3 hf hl) hg hsize (Steps.refl _) (a := a) (cell := ce) (by rw [eT]; exact hce) hst (argsL := argsL) (rest := rest) hlen hstack hW hd (fun _ _ => ⟨has, eT, hc, hs⟩)
  dsimp only [Pt.U, Pt.locs, Pt.cells, Pt.slots] at X' l' y' z' st hQ
  subst l' y' z'
  exact Goes.on (fun _ q => st.trans q) (k v T' Lc X' hQ)
theorem eqInt {t : Jvm.Term} {i : Int32} (hq : (Jvm.Cond.eq t (.int i)).value args Z none Z [] = some true) : t.eval args Z none [] Z = some (.int i) := by
  obtain ⟨x, y, e1, e2, -, k⟩ := cmp_v (Or.inl hq)
  cases Option.some.inj ((Term.int_eval i).symm.trans e2)
  obtain ⟨z, rfl⟩ := k
  rw [e1]
  simpa [Jvm.Cond.value, e1, e2] using hq
theorem fldInt {t : Jvm.Term} {C n d : String} {i : Int32} {a : Addr} (ht : t.eval args Z none [] Z = some (.ref a)) (hq : (Jvm.Cond.eq (.field t C n d) (.int i)).value args Z none Z [] = some true) : Fld Z Z.heap a C n d (.int i) := by
  refine Fld.start ((fld_at (C := C) (n := n) (dd := d) ht).symm.trans ?_)
  obtain ⟨x, y, e1, e2, -, k⟩ := cmp_v (Or.inl hq)
  cases Option.some.inj ((Term.int_eval i).symm.trans e2)
  obtain ⟨z, rfl⟩ := k
  rw [e1]
  simpa [Jvm.Cond.value, e1, e2] using hq
theorem fldRef {t u : Jvm.Term} {C n d : String} {a b : Addr} (ht : t.eval args Z none [] Z = some (.ref a)) (hu : u.eval args Z none [] Z = some (.ref b)) (hq : (Jvm.Cond.eq (.field t C n d) u).value args Z none Z [] = some true) : Fld Z Z.heap a C n d (.ref b) := by
  refine Fld.start ((fld_at (C := C) (n := n) (dd := d) ht).symm.trans ?_)
  obtain ⟨x, y, e1, e2, k, k'⟩ := cmp_v (Or.inl hq)
  cases Option.some.inj (hu.symm.trans e2)
  have := gotT (eq_R e1 e2 k'.2 rfl) hq
  rw [e1, this]
theorem lremM {g : JFrame} {target : State} (X : Stand p l e R s m args below meth c T locs cells slots) (hx : p.tables.exec = Jvm.exec) (hg : g.method = m) {x y : Int64} {rest : List Value} (hd : decode c.code g.pc = .ok (.lrem, 1)) (hs : g.stack = .long y :: .long x :: rest) (hy : y ≠ 0)
    (hr : Steps p.tables e below (T.setTop { g with pc := g.pc + 1, stack := .long (x % y) :: rest }) target) : Steps p.tables e below (T.setTop g) target :=
  XS.lrem X.here hx hg hd hs hy (by rw [lrem_mod]; exact hr)
theorem nsRoot {O K : String} {n : Nat} (w : (Jvm.Cond.noSuperclass O).before a0 Z = true) (wk : (Jvm.Cond.instantiable K n).before a0 Z = true) (hn : O ≠ K) : NS Z O K := by
  obtain ⟨c, k, h1, h2, h3, -, -⟩ := Cond.noSuperclass_spec w
  obtain ⟨t, kt, g1, -⟩ := Cond.instantiable_spec wk
  have ne := ids_ne h1 g1 hn
  refine ⟨c, t, h1, g1, fun fuel => ?_⟩
  cases fuel with
  | zero => rfl
  | succ f => simp [Vm.isSubclassAux, ne, h2, h3]
theorem nsNo {C S K : String} {n : Nat} (w : (Jvm.Cond.superclass C S).before a0 Z = true) (wk : (Jvm.Cond.instantiable K n).before a0 Z = true) (q : NS Z C K) (hn : C ≠ K) : ∃ c t, Z.vm.findClass C = some c ∧ Z.vm.findClass K = some t ∧ Z.vm.assignable c t = false := by
  obtain ⟨c, t, h0, g0, n3⟩ := q
  obtain ⟨p, k, kp, h1, h2, h3, h4, h5, -, h7⟩ := Cond.superclass_spec h0 w
  obtain ⟨t', k', g1, g2, g5, g6, -⟩ := Cond.instantiable_spec wk
  cases g0.symm.trans g1
  have g7 : k'.isInterface = false := by cases hq : k'.isInterface <;> simp [hq] at g6 ⊢
  have ne := ids_ne h0 g0 hn
  refine ⟨c, t, h0, g0, ?_⟩
  show Z.vm.assignableAux (255 + 1) c t = false
  simp [Vm.assignableAux, ne, h2, g2, h5, g5, g7, Vm.isSubclass, n3]
theorem narB {z : Int32} (h : z = 0 ∨ z = 1) : narrow .boolean (.int z) = .int z := by rcases h with rfl | rfl <;> rfl
theorem narR {t : FieldType} {v : Value} (ht : t.isReference = true) (h : v.isRef = true) : narrow t v = v := by cases t <;> first | rfl | cases ht
theorem fitR {t : FieldType} {v : Value} (ht : t.isReference = true) (h : v.isRef = true) : fits t v = true := by
  rcases ref_cases h with rfl | ⟨a, rfl⟩ <;> cases t <;> first | rfl | cases ht
theorem fitB {z : Int32} (h : z = 0 ∨ z = 1) : fits .boolean (.int z) = true := by rcases h with rfl | rfl <;> rfl
end Steps
/-- an array by what its places hold -/
def Upd {α : Type} (f : Nat → α) (j : Nat) (x : α) : Nat → α := fun i => if i = j then x else f i
def Arf {α : Type} (Z : State) (h : Heap) (a : Addr) (ty : FieldType) (con : α → Value) (n : Nat) (f : Nat → α) : Prop := ∃ c : Cell, Arr Z h a c ty ∧ c.slots.size = n ∧ ∀ i, i < n → c.slots[i]? = some (con (f i))
theorem updS {α : Type} (f : Nat → α) (j : Nat) (x : α) : Upd f j x j = x := if_pos rfl
theorem updN {α : Type} (f : Nat → α) {i j : Nat} (x : α) (h : i ≠ j) : Upd f j x i = f i := if_neg h
section Arrays
variable {p : Program} {l : Launch} {e : Env} {R : Room} {s : State} {m : MethodId} {args : Array Value} {below : List Frame} {meth : Method} {c : Code} {T T' : State} {locs : List Loc} {cells slots : Nat} {Z : State} {a0 : Array Value} {h h' : Heap} {P : Outcome → State → Prop} {g g' : JFrame} {α : Type} {con : α → Value} {a b : Addr} {ty : FieldType} {n : Nat} {f : Nat → α} {j : Int32} {rest : List Value}
theorem Arf.lt (F : Arf Z h a ty con n f) : a < h.size := by obtain ⟨c, A, -⟩ := F; exact A.lt
theorem Arf.ext (F : Arf Z h a ty con n f) (E : Ext h h') : Arf Z h' a ty con n f := by obtain ⟨c, A, r⟩ := F; exact ⟨c, A.ext E, r⟩
theorem Arf.other {sl : Nat} {v : Value} (F : Arf Z h b ty con n f) (W : Wr h h' a sl v) (q : b ≠ a) : Arf Z h' b ty con n f := by obtain ⟨c, A, r⟩ := F; exact ⟨c, A.other W q, r⟩
theorem Arf.keep {ws : List Addr} (F : Arf Z h a ty con n f) (K : Keep h h' ws) (q : a ∉ ws) : Arf Z h' a ty con n f := by obtain ⟨c, A, r⟩ := F; exact ⟨c, ⟨K.2.1 a c A.1 q, A.2⟩, r⟩
theorem Arf.new {cA : ClassId} {z : Int32} {d : α} (A : Arr Z h a (newA cA ty z) ty) (hd : defaultValue ty = con d) : Arf Z h a ty con z.toNatClampNeg (fun _ => d) :=
  ⟨_, A, sz_new _ _ _, fun i hi => by simp [newA, hi, hd]⟩
theorem Arf.set (F : Arf Z h a ty con n f) {k : Nat} {v : Value} {x : α} (W : Wr h h' a k v) (hv : v = con x) : Arf Z h' a ty con n (Upd f k x) := by
  obtain ⟨c, A, S, H⟩ := F
  refine ⟨_, A.same W, (sz_set _ _ _).trans S, fun i hi => ?_⟩
  subst hv
  by_cases q : i = k
  · subst q; simp [Cell.setSlot, Upd, S, hi]
  · have : ((c.setSlot k (con x)).slots)[i]? = c.slots[i]? := Array.getElem?_setIfInBounds_ne (Ne.symm q)
    rw [this, H i hi]; simp [Upd, q]
theorem Arf.inb {c : Cell} (S : c.slots.size = n) (hj : ¬ j < 0 ∧ j.toNatClampNeg < n) : ¬ (j < 0 ∨ c.slots.size ≤ j.toNatClampNeg) := fun q => q.elim hj.1 fun r => by omega
theorem ldJ {f : Nat → Int64} (X : Stand p l e R s m args below meth c T locs cells slots) (hx : p.tables.exec = Jvm.exec) (hZ : Z.Warmed39 s.vm) (eT : T.heap = h) (F : Arf Z h a .long Value.long n f) (hj : ¬ j < 0 ∧ j.toNatClampNeg < n) (hg : g.method = m) (hs : g.stack = .int j :: .ref a :: rest) (hd : decode c.code g.pc = .ok (.laload, 1)) {t : State}
    (k : Steps p.tables e below (T.setTop { g with pc := g.pc + 1, stack := .long (f j.toNatClampNeg) :: rest }) t) : Steps p.tables e below (T.setTop g) t := by
  obtain ⟨cl, A, S, H⟩ := F
  exact X.laload hx (by rw [eT]; exact A.1) (State.isArrayOf_alike hZ.alike A.2.1) A.2.2 (Arf.inb S hj) (H _ hj.2) hg hs hd t k
theorem ldJm {f : Nat → Int64} (X : Stand p l e R s m args below meth c T locs cells slots) (hx : p.tables.exec = Jvm.exec) (hZ : Z.Warmed39 s.vm) (eT : T.heap = h) (F : Arf Z h a .long Value.long n f) (hj : ¬ j < 0 ∧ j.toNatClampNeg < n) {pc : Nat} {Ls : Array Slot} (hd : decode c.code pc = .ok (.laload, 1)) {t : State}
    (k : Steps p.tables e below (T.setTop (mkF m (pc + 1) Ls (.long (f j.toNatClampNeg) :: rest))) t) : Steps p.tables e below (T.setTop (mkF m pc Ls (.int j :: .ref a :: rest))) t :=
  ldJ (g := mkF m pc Ls (.int j :: .ref a :: rest)) X hx hZ eT F hj rfl rfl hd k
theorem ldI {f : Nat → Int32} (X : Stand p l e R s m args below meth c T locs cells slots) (hx : p.tables.exec = Jvm.exec) (hZ : Z.Warmed39 s.vm) (eT : T.heap = h) (F : Arf Z h a .int Value.int n f) (hj : ¬ j < 0 ∧ j.toNatClampNeg < n) (hg : g.method = m) (hs : g.stack = .int j :: .ref a :: rest) (hd : decode c.code g.pc = .ok (.iaload, 1)) {t : State}
    (k : Steps p.tables e below (T.setTop { g with pc := g.pc + 1, stack := .int (f j.toNatClampNeg) :: rest }) t) : Steps p.tables e below (T.setTop g) t := by
  obtain ⟨cl, A, S, H⟩ := F
  exact X.iaload hx (by rw [eT]; exact A.1) (State.isArrayOf_alike hZ.alike A.2.1) A.2.2 (Arf.inb S hj) (H _ hj.2) hg hs hd t k
theorem ldIm {f : Nat → Int32} (X : Stand p l e R s m args below meth c T locs cells slots) (hx : p.tables.exec = Jvm.exec) (hZ : Z.Warmed39 s.vm) (eT : T.heap = h) (F : Arf Z h a .int Value.int n f) (hj : ¬ j < 0 ∧ j.toNatClampNeg < n) {pc : Nat} {Ls : Array Slot} (hd : decode c.code pc = .ok (.iaload, 1)) {t : State}
    (k : Steps p.tables e below (T.setTop (mkF m (pc + 1) Ls (.int (f j.toNatClampNeg) :: rest))) t) : Steps p.tables e below (T.setTop (mkF m pc Ls (.int j :: .ref a :: rest))) t :=
  ldI (g := mkF m pc Ls (.int j :: .ref a :: rest)) X hx hZ eT F hj rfl rfl hd k
theorem ldZ {f : Nat → Int32} (X : Stand p l e R s m args below meth c T locs cells slots) (hx : p.tables.exec = Jvm.exec) (hZ : Z.Warmed39 s.vm) (eT : T.heap = h) (F : Arf Z h a .boolean Value.int n f) (hj : ¬ j < 0 ∧ j.toNatClampNeg < n) (hg : g.method = m) (hs : g.stack = .int j :: .ref a :: rest) (hd : decode c.code g.pc = .ok (.baload, 1)) {t : State}
    (k : Steps p.tables e below (T.setTop { g with pc := g.pc + 1, stack := .int (f j.toNatClampNeg) :: rest }) t) : Steps p.tables e below (T.setTop g) t := by
  obtain ⟨cl, A, S, H⟩ := F
  exact X.baloadBooleans hx (by rw [eT]; exact A.1) (State.isArrayOf_alike hZ.alike A.2.1) A.2.2 (Arf.inb S hj) (H _ hj.2) hg hs hd t k
theorem ldZm {f : Nat → Int32} (X : Stand p l e R s m args below meth c T locs cells slots) (hx : p.tables.exec = Jvm.exec) (hZ : Z.Warmed39 s.vm) (eT : T.heap = h) (F : Arf Z h a .boolean Value.int n f) (hj : ¬ j < 0 ∧ j.toNatClampNeg < n) {pc : Nat} {Ls : Array Slot} (hd : decode c.code pc = .ok (.baload, 1)) {t : State}
    (k : Steps p.tables e below (T.setTop (mkF m (pc + 1) Ls (.int (f j.toNatClampNeg) :: rest))) t) : Steps p.tables e below (T.setTop (mkF m pc Ls (.int j :: .ref a :: rest))) t :=
  ldZ (g := mkF m pc Ls (.int j :: .ref a :: rest)) X hx hZ eT F hj rfl rfl hd k
theorem ldY {f : Nat → Int32} (X : Stand p l e R s m args below meth c T locs cells slots) (hx : p.tables.exec = Jvm.exec) (hZ : Z.Warmed39 s.vm) (eT : T.heap = h) (F : Arf Z h a .byte Value.int n f) (hj : ¬ j < 0 ∧ j.toNatClampNeg < n) (hg : g.method = m) (hs : g.stack = .int j :: .ref a :: rest) (hd : decode c.code g.pc = .ok (.baload, 1)) {t : State}
    (k : Steps p.tables e below (T.setTop { g with pc := g.pc + 1, stack := .int (f j.toNatClampNeg) :: rest }) t) : Steps p.tables e below (T.setTop g) t := by
  obtain ⟨cl, A, S, H⟩ := F
  exact X.baloadBytes hx (by rw [eT]; exact A.1) (State.isArrayOf_alike hZ.alike A.2.1) A.2.2 (Arf.inb S hj) (H _ hj.2) hg hs hd t k
theorem ldYm {f : Nat → Int32} (X : Stand p l e R s m args below meth c T locs cells slots) (hx : p.tables.exec = Jvm.exec) (hZ : Z.Warmed39 s.vm) (eT : T.heap = h) (F : Arf Z h a .byte Value.int n f) (hj : ¬ j < 0 ∧ j.toNatClampNeg < n) {pc : Nat} {Ls : Array Slot} (hd : decode c.code pc = .ok (.baload, 1)) {t : State}
    (k : Steps p.tables e below (T.setTop (mkF m (pc + 1) Ls (.int (f j.toNatClampNeg) :: rest))) t) : Steps p.tables e below (T.setTop (mkF m pc Ls (.int j :: .ref a :: rest))) t :=
  ldY (g := mkF m pc Ls (.int j :: .ref a :: rest)) X hx hZ eT F hj rfl rfl hd k
theorem ldD {f : Nat → UInt64} (X : Stand p l e R s m args below meth c T locs cells slots) (hx : p.tables.exec = Jvm.exec) (hZ : Z.Warmed39 s.vm) (eT : T.heap = h) (F : Arf Z h a .double Value.double n f) (hj : ¬ j < 0 ∧ j.toNatClampNeg < n) (hg : g.method = m) (hs : g.stack = .int j :: .ref a :: rest) (hd : decode c.code g.pc = .ok (.daload, 1)) {t : State}
    (k : Steps p.tables e below (T.setTop { g with pc := g.pc + 1, stack := .double (f j.toNatClampNeg) :: rest }) t) : Steps p.tables e below (T.setTop g) t := by
  obtain ⟨cl, A, S, H⟩ := F
  exact X.daload hx (by rw [eT]; exact A.1) (State.isArrayOf_alike hZ.alike A.2.1) A.2.2 (Arf.inb S hj) (H _ hj.2) hg hs hd t k
theorem ldDm {f : Nat → UInt64} (X : Stand p l e R s m args below meth c T locs cells slots) (hx : p.tables.exec = Jvm.exec) (hZ : Z.Warmed39 s.vm) (eT : T.heap = h) (F : Arf Z h a .double Value.double n f) (hj : ¬ j < 0 ∧ j.toNatClampNeg < n) {pc : Nat} {Ls : Array Slot} (hd : decode c.code pc = .ok (.daload, 1)) {t : State}
    (k : Steps p.tables e below (T.setTop (mkF m (pc + 1) Ls (.double (f j.toNatClampNeg) :: rest))) t) : Steps p.tables e below (T.setTop (mkF m pc Ls (.int j :: .ref a :: rest))) t :=
  ldD (g := mkF m pc Ls (.int j :: .ref a :: rest)) X hx hZ eT F hj rfl rfl hd k
theorem aLen (X : Stand p l e R s m args below meth c T locs cells slots) (hx : p.tables.exec = Jvm.exec) (hZ : Z.Warmed39 s.vm) (eT : T.heap = h) (F : Arf Z h a ty con n f) (hg : g.method = m) (hs : g.stack = .ref a :: rest) (hd : decode c.code g.pc = .ok (.arraylength, 1)) {t : State}
    (k : Steps p.tables e below (T.setTop { g with pc := g.pc + 1, stack := .int n.toInt32 :: rest }) t) : Steps p.tables e below (T.setTop g) t := by
  obtain ⟨cl, A, S, H⟩ := F
  exact X.arraylength hx (by rw [eT]; exact A.1) (State.isArrayOf_alike hZ.alike A.2.1) hg hs hd t (by rw [S]; exact k)
theorem aLenm (X : Stand p l e R s m args below meth c T locs cells slots) (hx : p.tables.exec = Jvm.exec) (hZ : Z.Warmed39 s.vm) (eT : T.heap = h) (F : Arf Z h a ty con n f) {pc : Nat} {Ls : Array Slot} (hd : decode c.code pc = .ok (.arraylength, 1)) {t : State}
    (k : Steps p.tables e below (T.setTop (mkF m (pc + 1) Ls (.int n.toInt32 :: rest))) t) : Steps p.tables e below (T.setTop (mkF m pc Ls (.ref a :: rest))) t :=
  aLen (g := mkF m pc Ls (.ref a :: rest)) X hx hZ eT F rfl rfl hd k
theorem wrJ {f : Nat → Int64} {x : Int64} (X : Stand p l e R s m args below meth c T locs cells slots) (hx : p.tables.exec = Jvm.exec) (hZ : Z.Warmed39 s.vm) (eT : T.heap = h) (F : Arf Z h a .long Value.long n f) (hj : ¬ j < 0 ∧ j.toNatClampNeg < n) (hg : g.method = m) (hs : g.stack = .long x :: .int j :: .ref a :: rest) (hd : decode c.code g.pc = .ok (.lastore, 1)) :
    ∃ T' h', Stand p l e R s m args below meth c T' (locs ++ [⟨a, j.toNatClampNeg⟩]) cells slots ∧ T'.heap = h' ∧ Wr h h' a j.toNatClampNeg (.long x) ∧ Arf Z h' a .long Value.long n (Upd f j.toNatClampNeg x) ∧ ∀ target, Steps p.tables e below (T'.setTop { g with pc := g.pc + 1, stack := rest }) target → Steps p.tables e below (T.setTop g) target := by
  have F' := F
  obtain ⟨cl, A, S, H⟩ := F
  obtain ⟨T', h', X', e', W, st⟩ := stJ X hx hZ eT A (Arf.inb S hj) hg hs hd
  exact ⟨T', h', X', e', W, F'.set W rfl, st⟩
theorem wrI {f : Nat → Int32} {x : Int32} (X : Stand p l e R s m args below meth c T locs cells slots) (hx : p.tables.exec = Jvm.exec) (hZ : Z.Warmed39 s.vm) (eT : T.heap = h) (F : Arf Z h a .int Value.int n f) (hj : ¬ j < 0 ∧ j.toNatClampNeg < n) (hg : g.method = m) (hs : g.stack = .int x :: .int j :: .ref a :: rest) (hd : decode c.code g.pc = .ok (.iastore, 1)) :
    ∃ T' h', Stand p l e R s m args below meth c T' (locs ++ [⟨a, j.toNatClampNeg⟩]) cells slots ∧ T'.heap = h' ∧ Wr h h' a j.toNatClampNeg (.int x) ∧ Arf Z h' a .int Value.int n (Upd f j.toNatClampNeg x) ∧ ∀ target, Steps p.tables e below (T'.setTop { g with pc := g.pc + 1, stack := rest }) target → Steps p.tables e below (T.setTop g) target := by
  have F' := F
  obtain ⟨cl, A, S, H⟩ := F
  obtain ⟨T', h', X', e', W, st⟩ := stI X hx hZ eT A (Arf.inb S hj) hg hs hd
  exact ⟨T', h', X', e', W, F'.set W rfl, st⟩
theorem wrD {f : Nat → UInt64} {x : UInt64} (X : Stand p l e R s m args below meth c T locs cells slots) (hx : p.tables.exec = Jvm.exec) (hZ : Z.Warmed39 s.vm) (eT : T.heap = h) (F : Arf Z h a .double Value.double n f) (hj : ¬ j < 0 ∧ j.toNatClampNeg < n) (hg : g.method = m) (hs : g.stack = .double x :: .int j :: .ref a :: rest) (hd : decode c.code g.pc = .ok (.dastore, 1)) :
    ∃ T' h', Stand p l e R s m args below meth c T' (locs ++ [⟨a, j.toNatClampNeg⟩]) cells slots ∧ T'.heap = h' ∧ Wr h h' a j.toNatClampNeg (.double x) ∧ Arf Z h' a .double Value.double n (Upd f j.toNatClampNeg x) ∧ ∀ target, Steps p.tables e below (T'.setTop { g with pc := g.pc + 1, stack := rest }) target → Steps p.tables e below (T.setTop g) target := by
  have F' := F
  obtain ⟨cl, A, S, H⟩ := F
  obtain ⟨T', h', X', e', W, st⟩ := stD X hx hZ eT A (Arf.inb S hj) hg hs hd
  exact ⟨T', h', X', e', W, F'.set W rfl, st⟩
theorem wrZ {f : Nat → Int32} {x : Int32} (X : Stand p l e R s m args below meth c T locs cells slots) (hx : p.tables.exec = Jvm.exec) (hZ : Z.Warmed39 s.vm) (eT : T.heap = h) (F : Arf Z h a .boolean Value.int n f) (hj : ¬ j < 0 ∧ j.toNatClampNeg < n) (hb : x = 0 ∨ x = 1) (hg : g.method = m) (hs : g.stack = .int x :: .int j :: .ref a :: rest) (hd : decode c.code g.pc = .ok (.bastore, 1)) :
    ∃ T' h', Stand p l e R s m args below meth c T' (locs ++ [⟨a, j.toNatClampNeg⟩]) cells slots ∧ T'.heap = h' ∧ Wr h h' a j.toNatClampNeg (.int x) ∧ Arf Z h' a .boolean Value.int n (Upd f j.toNatClampNeg x) ∧ ∀ target, Steps p.tables e below (T'.setTop { g with pc := g.pc + 1, stack := rest }) target → Steps p.tables e below (T.setTop g) target := by
  have F' := F
  obtain ⟨cl, A, S, H⟩ := F
  obtain ⟨T', h', X', e', W, st⟩ := stZ X hx hZ eT A (Arf.inb S hj) hg hs hd
  have q : nar .boolean x = x := by rcases hb with rfl | rfl <;> rfl
  rw [q] at W
  exact ⟨T', h', X', e', W, F'.set W rfl, st⟩
theorem nat32 {n : Nat} (hn : n < 2 ^ 31) : n.toInt32.toNatClampNeg = n := by
  have q : n.toInt32.toInt = n := len_toInt hn
  simp only [Int32.toNatClampNeg, q]; omega
theorem pos32 {n : Nat} (hn : n < 2 ^ 31) : ¬ n.toInt32 < 0 := by
  have q : n.toInt32.toInt = n := len_toInt hn
  rw [Int32.lt_iff_toInt_lt, q]; have k : (0 : Int32).toInt = 0 := rfl
  omega
theorem Arf.arv (F : Arf Z h a ty con n f) (hn : n < 2 ^ 31) (hf : ∀ x, fits ty (con x) = true) (d : Value) : ∃ k, Arv Z h a k ty n.toInt32 ((List.range n).map fun i => con (f i)) d := by
  obtain ⟨cl, A, S, H⟩ := F
  refine ⟨cl.cls, cl, A, rfl, by rw [nat32 hn, S], pos32 hn, fun i hi => ?_, fun i hi => ?_⟩
  · rw [S] at hi; rw [H i hi]; simp [List.getD, hi]
  · rw [S] at hi; simp [List.getD, hi, hf]
theorem Arf.arv' (F : Arf Z h a ty con n f) (hn : n < 2 ^ 31) (hf : ∀ i, i < n → fits ty (con (f i)) = true) (d : Value) : ∃ k, Arv Z h a k ty n.toInt32 ((List.range n).map fun i => con (f i)) d := by
  obtain ⟨cl, A, S, H⟩ := F
  refine ⟨cl.cls, cl, A, rfl, by rw [nat32 hn, S], pos32 hn, fun i hi => ?_, fun i hi => ?_⟩
  · rw [S] at hi; rw [H i hi]; simp [List.getD, hi]
  · rw [S] at hi; simp [List.getD, hi, hf i hi]
theorem wrC {f : Nat → Int32} {x : Int32} (X : Stand p l e R s m args below meth c T locs cells slots) (hx : p.tables.exec = Jvm.exec) (hZ : Z.Warmed39 s.vm) (eT : T.heap = h) (F : Arf Z h a .char Value.int n f) (hj : ¬ j < 0 ∧ j.toNatClampNeg < n) (hb : nar .char x = x) (hg : g.method = m) (hs : g.stack = .int x :: .int j :: .ref a :: rest) (hd : decode c.code g.pc = .ok (.castore, 1)) :
    ∃ T' h', Stand p l e R s m args below meth c T' (locs ++ [⟨a, j.toNatClampNeg⟩]) cells slots ∧ T'.heap = h' ∧ Wr h h' a j.toNatClampNeg (.int x) ∧ Arf Z h' a .char Value.int n (Upd f j.toNatClampNeg x) ∧ ∀ target, Steps p.tables e below (T'.setTop { g with pc := g.pc + 1, stack := rest }) target → Steps p.tables e below (T.setTop g) target := by
  have F' := F
  obtain ⟨cl, A, S, H⟩ := F
  obtain ⟨T', h', X', e', W, st⟩ := stC X hx hZ eT A (Arf.inb S hj) hg hs hd
  rw [hb] at W
  exact ⟨T', h', X', e', W, F'.set W rfl, st⟩
theorem narC (y : Int32) : nar .char (y.toUInt32.toUInt16.toUInt32.toInt32) = y.toUInt32.toUInt16.toUInt32.toInt32 := by
  simp only [nar, UInt32.toUInt32_toInt32, UInt16.toUInt16_toUInt32]
theorem Arv.arf {k : ClassId} {z : Int32} {vs : List Value} {d : Value} (V : Arv Z h a k ty z vs d) (hz : z.toNatClampNeg = n) (hv : ∀ i, i < n → vs.getD i d = con (f i)) : Arf Z h a ty con n f := by
  obtain ⟨cl, A, -, S, -, H, -⟩ := V
  exact ⟨cl, A, S.trans hz, fun i hi => by rw [H i (by omega), hv i hi]⟩
/-- System.arraycopy(src, 0, dst, 0, len) -/
theorem acF (X : Stand p l e R s m args below meth c T locs cells slots) (hx : p.tables.exec = Jvm.exec) (hZ : Z.Warmed39 s.vm) {own : String} {index : Nat} (hown : s.vm.findClass own = some m.cls)
    (w1 : (Jvm.Cond.methodLink own index Jvm.Stand.acN).before a0 Z = true) (w2 : (Jvm.Cond.native Jvm.Stand.acN).before a0 Z = true) (w3 : (Jvm.Cond.static Jvm.Stand.acN).before a0 Z = true) (w4 : (Jvm.Cond.initialized "java/lang/System").before a0 Z = true) (eT : T.heap = h)
    {n' : Nat} {f' : Nat → α} {nn : Int32} {len : Nat} (A : Arf Z h a ty con n f) (B : Arf Z h b ty con n' f') (hty : refKind ty = false) (hf : ∀ x, fits ty (con x) = true) (hn : n < 2 ^ 31) (hn' : n' < 2 ^ 31) (h3 : ¬ nn < 0) (hl : nn.toNatClampNeg = len) (h4 : len ≤ n) (h5 : len ≤ n') {n0 : Nat} (N : Fr n0 locs) (ge : n0 ≤ b)
    (hg : g.method = m) (hsize : g.locals.size = c.maxLocals) (hs : g.stack = .int nn :: .int 0 :: .ref b :: .int 0 :: .ref a :: rest) (hd : decode c.code g.pc = .ok (.invokestatic index, 3))
    (hfr : 1 ≤ R.frames) {W : Nat} (hW : 2 * g.monitorRoom + (rest.map fun v => v.category).sum ≤ W) (hlo : W + (nativeFrameWords "java/lang/System" "arraycopy" 5 + 11) ≤ R.locals) :
    ∃ T' h' L, Stand p l e R s m args below meth c T' L cells slots ∧ T'.heap = h' ∧ Fr n0 L ∧ Keep h h' [b] ∧ Arf Z h' b ty con n' (fun i => if i < len then f i else f' i) ∧
      ∀ target, Steps p.tables e below (T'.setTop { g with pc := g.pc + 3, stack := rest }) target → Steps p.tables e below (T.setTop g) target := by
  obtain ⟨k, VA⟩ := A.arv hn hf .null
  obtain ⟨k', VB⟩ := B.arv hn' hf .null
  have z0 : (0 : Int32).toNatClampNeg = 0 := rfl
  obtain ⟨T', h', L, X', e', F', K', V', st⟩ := cpA X hx hZ hown w1 w2 w3 w4 eT VA VB (us := (List.range nn.toNatClampNeg).map fun i => ((List.range n).map fun i => con (f i)).getD ((0 : Int32).toNatClampNeg + i) .null) (Or.inl ⟨rfl, hty⟩) (sp := 0) (dp := 0) (nn := nn) (by decide) (by decide) h3 (by rw [z0, hl, nat32 hn]; omega) (by rw [z0, hl, nat32 hn']; omega) rfl (by rw [z0, hl]; simp; omega) N ge hg hsize hs hd hfr hW hlo
  refine ⟨T', h', L, X', e', F', K', Arv.arf V' (nat32 hn') fun i hi => ?_, st⟩
  rw [z0, hl]
  by_cases q : i < len
  · have q2 : i < n := by omega
    simp [List.getD, List.getElem?_append, q, q2]
  · have q3 : len + (i - len) = i := by omega
    have q4 : i < n' := hi
    simp [List.getD, List.getElem?_append, q, q3, q4]
/-- an array of arrays, with the class that it takes -/
def Blk (Z : State) (h : Heap) (b : Addr) (ty : FieldType) (C : String) (n : Nat) (f : Nat → Value) : Prop := ∃ c : Cell, Arr Z h b c (.array ty) ∧ OvrA Z c.cls ty C ∧ c.slots.size = n ∧ ∀ i, i < n → c.slots[i]? = some (f i)
section Blks
variable {C : String} {f : Nat → Value}
theorem Blk.lt (F : Blk Z h a ty C n f) : a < h.size := by obtain ⟨c, A, -⟩ := F; exact A.lt
theorem Blk.ext (F : Blk Z h a ty C n f) (E : Ext h h') : Blk Z h' a ty C n f := by obtain ⟨c, A, r⟩ := F; exact ⟨c, A.ext E, r⟩
theorem Blk.other {sl : Nat} {v : Value} (F : Blk Z h b ty C n f) (W : Wr h h' a sl v) (q : b ≠ a) : Blk Z h' b ty C n f := by obtain ⟨c, A, r⟩ := F; exact ⟨c, A.other W q, r⟩
theorem Blk.keep {ws : List Addr} (F : Blk Z h a ty C n f) (K : Keep h h' ws) (q : a ∉ ws) : Blk Z h' a ty C n f := by obtain ⟨c, A, r⟩ := F; exact ⟨c, ⟨K.2.1 a c A.1 q, A.2⟩, r⟩
theorem Blk.new {cA : ClassId} {z : Int32} (A : Arr Z h a (newA cA (.array ty) z) (.array ty)) (O : OvrA Z cA ty C) : Blk Z h a ty C z.toNatClampNeg (fun _ => .null) :=
  ⟨_, A, O, sz_new _ _ _, fun i hi => by simp [newA, hi, defaultValue]⟩
theorem ldB (X : Stand p l e R s m args below meth c T locs cells slots) (hx : p.tables.exec = Jvm.exec) (hZ : Z.Warmed39 s.vm) (eT : T.heap = h) (F : Blk Z h a ty C n f) (hj : ¬ j < 0 ∧ j.toNatClampNeg < n) (hg : g.method = m) (hs : g.stack = .int j :: .ref a :: rest) (hd : decode c.code g.pc = .ok (.aaload, 1)) {t : State}
    (k : Steps p.tables e below (T.setTop { g with pc := g.pc + 1, stack := f j.toNatClampNeg :: rest }) t) : Steps p.tables e below (T.setTop g) t := by
  obtain ⟨cl, A, O, S, H⟩ := F
  exact X.aaload hx (by rw [eT]; exact A.1) (State.isArrayOf_alike hZ.alike A.2.1) rfl A.2.2 (Arf.inb S hj) (H _ hj.2) hg hs hd t k
theorem ldBm (X : Stand p l e R s m args below meth c T locs cells slots) (hx : p.tables.exec = Jvm.exec) (hZ : Z.Warmed39 s.vm) (eT : T.heap = h) (F : Blk Z h a ty C n f) (hj : ¬ j < 0 ∧ j.toNatClampNeg < n) {pc : Nat} {Ls : Array Slot} (hd : decode c.code pc = .ok (.aaload, 1)) {t : State}
    (k : Steps p.tables e below (T.setTop (mkF m (pc + 1) Ls (f j.toNatClampNeg :: rest))) t) : Steps p.tables e below (T.setTop (mkF m pc Ls (.int j :: .ref a :: rest))) t :=
  ldB (g := mkF m pc Ls (.int j :: .ref a :: rest)) X hx hZ eT F hj rfl rfl hd k
theorem lenB (X : Stand p l e R s m args below meth c T locs cells slots) (hx : p.tables.exec = Jvm.exec) (hZ : Z.Warmed39 s.vm) (eT : T.heap = h) (F : Blk Z h a ty C n f) (hg : g.method = m) (hs : g.stack = .ref a :: rest) (hd : decode c.code g.pc = .ok (.arraylength, 1)) {t : State}
    (k : Steps p.tables e below (T.setTop { g with pc := g.pc + 1, stack := .int n.toInt32 :: rest }) t) : Steps p.tables e below (T.setTop g) t := by
  obtain ⟨cl, A, O, S, H⟩ := F
  exact X.arraylength hx (by rw [eT]; exact A.1) (State.isArrayOf_alike hZ.alike A.2.1) hg hs hd t (by rw [S]; exact k)
theorem lenBm (X : Stand p l e R s m args below meth c T locs cells slots) (hx : p.tables.exec = Jvm.exec) (hZ : Z.Warmed39 s.vm) (eT : T.heap = h) (F : Blk Z h a ty C n f) {pc : Nat} {Ls : Array Slot} (hd : decode c.code pc = .ok (.arraylength, 1)) {t : State}
    (k : Steps p.tables e below (T.setTop (mkF m (pc + 1) Ls (.int n.toInt32 :: rest))) t) : Steps p.tables e below (T.setTop (mkF m pc Ls (.ref a :: rest))) t :=
  lenB (g := mkF m pc Ls (.ref a :: rest)) X hx hZ eT F rfl rfl hd k
theorem wrB {y : Addr} (X : Stand p l e R s m args below meth c T locs cells slots) (hx : p.tables.exec = Jvm.exec) (hZ : Z.Warmed39 s.vm) (eT : T.heap = h) (F : Blk Z h a ty C n f) (I : Ins Z h y C true) (hj : ¬ j < 0 ∧ j.toNatClampNeg < n) (hg : g.method = m) (hs : g.stack = .ref y :: .int j :: .ref a :: rest) (hd : decode c.code g.pc = .ok (.aastore, 1)) :
    ∃ T' h', Stand p l e R s m args below meth c T' (locs ++ [⟨a, j.toNatClampNeg⟩]) cells slots ∧ T'.heap = h' ∧ Wr h h' a j.toNatClampNeg (.ref y) ∧ Blk Z h' a ty C n (Upd f j.toNatClampNeg (.ref y)) ∧ ∀ target, Steps p.tables e below (T'.setTop { g with pc := g.pc + 1, stack := rest }) target → Steps p.tables e below (T.setTop g) target := by
  obtain ⟨cl, A, O, S, H⟩ := F
  obtain ⟨T', h', X', e', W, st⟩ := stR X hx hZ eT A (Arf.inb S hj) rfl (Sto.ofVA A rfl O I) hg hs hd
  refine ⟨T', h', X', e', W, ⟨_, A.same W, O, (sz_set _ _ _).trans S, fun i hi => ?_⟩, st⟩
  by_cases q : i = j.toNatClampNeg
  · subst q; simp [Cell.setSlot, Upd, S, hi]
  · have : ((cl.setSlot j.toNatClampNeg (.ref y)).slots)[i]? = cl.slots[i]? := Array.getElem?_setIfInBounds_ne (Ne.symm q)
    rw [this, H i hi]; simp [Upd, q]
theorem Blk.one {v : Value} (F : Blk Z h b ty C 1 f) (hv : f 0 = v) : Blk Z h b ty C 1 (fun _ => v) := by
  obtain ⟨c, A, O, S, H⟩ := F
  refine ⟨c, A, O, S, fun i hi => ?_⟩
  obtain rfl : i = 0 := by omega
  rw [H 0 hi, hv]
end Blks
end Arrays
end Jvm.Own
namespace Jvm.Own
open Sem ClassFile Op Lib Jvm.Stand Jvm.Free Jvm.LawKit Jvm.RoadKit
/-- what a body leaves that may have loaded String constants -/
abbrev LeavesW (Z : State) (EL : List (String × Nat)) (h0 : Heap) (s : State) (Q : Option Value → Heap → List Loc → Prop) (C N : Nat) (o : Outcome) (U : State) : Prop := ∃ v L, o = .returned v ∧ Q v U.heap L ∧ CHr Z EL s.vm h0 U.vm U.heap ∧ ReturnedEndW s o U L C N
abbrev PaysW (l : Launch) (Z : State) (EL : List (String × Nat)) (y : MethodName) (bytes : ByteArray) (maxL : Nat) (ret : Option FieldType) (ws : List Jvm.Cond) (rm : Room) (as : Array Value) (h0 : Heap) (Q : Option Value → Heap → List Loc → Prop) : Prop :=
  MetFree l y (head1 (Jvm.Cond.code y bytes maxL ret :: ws) rm) (fun a U => a = as ∧ Z.Warmed39 U.vm ∧ U.heap = h0 ∧ CHv Z EL U.vm h0) (fun _ _ _ _ _ => True) (fun _ U o U' => ∃ v L, o = .returned v ∧ Q v U'.heap L ∧ CHr Z EL U.vm U.heap U'.vm U'.heap ∧ ReturnedEndW U o U' L rm.cells rm.slots)
/-- a String with these bytes -/
def Str (Z : State) (h : Heap) (r b : Addr) (k : ClassId) (N : Int32) (vs : List Value) : Prop := Exa Z h r "java/lang/String" ∧ Fld Z h r "java/lang/String" "coder" "B" (.int 0) ∧ Fld Z h r "java/lang/String" "value" "[B" (.ref b) ∧ Arv Z h b k .byte N vs (.int 0)
theorem Str.ext {Z : State} {h h' : Heap} {r b : Addr} {k : ClassId} {N : Int32} {vs : List Value} (F : Str Z h r b k N vs) (E : Ext h h') : Str Z h' r b k N vs := ⟨F.1.ext E, F.2.1.ext E, F.2.2.1.ext E, F.2.2.2.ext E⟩
theorem Str.keep {Z : State} {h h' : Heap} {r b : Addr} {k : ClassId} {N : Int32} {vs : List Value} {ws : List Addr} (F : Str Z h r b k N vs) (K : Keep h h' ws) (hr : r ∉ ws) (hb : b ∉ ws) : Str Z h' r b k N vs := ⟨F.1.keep K, F.2.1.keep K hr, F.2.2.1.keep K hr, F.2.2.2.keep K hb⟩
theorem Str.wr {Z : State} {h h' : Heap} {r b a : Addr} {k : ClassId} {N : Int32} {vs : List Value} {sl : Nat} {v : Value} (F : Str Z h r b k N vs) (W : Wr h h' a sl v) (hr : r ≠ a) (hb : b ≠ a) : Str Z h' r b k N vs := ⟨F.1.wr W, F.2.1.other W (Or.inl hr), F.2.2.1.other W (Or.inl hr), F.2.2.2.other W hb⟩
theorem Str.ne {Z : State} {h : Heap} {r b r' b' : Addr} {k k' : ClassId} {N N' : Int32} {vs vs' : List Value} (F : Str Z h r b k N vs) (G : Str Z h r' b' k' N' vs') (hN : 0 < N.toNatClampNeg) (hv : vs.getD 0 (.int 0) ≠ vs'.getD 0 (.int 0)) : r ≠ r' := by
  by_cases q : b = b'
  · subst q
    obtain ⟨c, A, -, S, -, H, -⟩ := F.2.2.2
    obtain ⟨c', A', -, S', -, H', -⟩ := G.2.2.2
    cases A.1.symm.trans A'.1
    exact absurd (Option.some.inj ((H 0 (by omega)).symm.trans (H' 0 (by omega)))) hv
  · exact Fld.ne F.2.2.1 G.2.2.1 (fun z => q (Value.ref.inj z))
section StepsW
variable {p : Program} {l : Launch} {e : Env} {R : Room} {s : State} {m : MethodId} {args : Array Value} {below : List Frame} {meth : Method} {c : Code} {T T' : State} {locs : List Loc} {cells slots : Nat} {Z : State} {a0 : Array Value} {h h0 : Heap} {P : Outcome → State → Prop} {g g' : JFrame} {EL : List (String × Nat)} {vm vm0 vm1 : Vm} {k0 : Nat}
theorem chNil : CHv Z [] vm h := fun p hp => by cases hp
theorem chrNil {h' : Heap} (q : h.size ≤ h'.size) : CHr Z [] vm h vm1 h' := ⟨chNil, q, fun y b => by obtain ⟨p, hp, -⟩ := b; cases hp⟩
theorem endMono {t : State} {o : Outcome} {L : List Loc} {k n k' n' : Nat} (q : ReturnedEndW s o t L k n) (hk : k ≤ k') (hn : n ≤ n') : ReturnedEndW s o t L k' n' := ⟨q.1, q.2.1, q.2.2.1, q.2.2.2.mono hk hn⟩
theorem Goes.outW {Q : Option Value → Heap → List Loc → Prop} {C N : Nat} (X : Stand p l e R (s.setVm vm0) m args below meth c T locs cells slots) (hS : s.Since vm0 k0) (hk : k0 ≤ T.heap.size) (hZ : Z.Warmed39 vm0) (hEL : EW Z a0 EL) (hr : CHr Z EL s.vm h0 vm0 T.heap) {v : Option Value} (hv : meth.sig.returnType = none → v = none) (hlk : meth.locks = false) (hc : cells ≤ C) (hs : slots ≤ N) (hq : Q v T.heap locs)
    (st : ∀ fs, (∀ (f : JFrame) (acts : List Action), f.method = m → f.locked = none → f.entered = [] → (doReturn e (T.setTop f) acts v).1 = T.setFrames fs) → Steps p.tables e below (T.setTop g) (T.setFrames fs)) : Goes p e below (LeavesW Z EL h0 s Q C N) T g := by
  obtain ⟨fs, hrr, hrun, hended, hE⟩ := X.leaveW hS hk (v := v) hv hlk
  have hC : CHr Z EL s.vm h0 T.vm T.heap := hr.trans (CHv.at X hZ hEL hr.1)
  exact ⟨_, _, st fs hrr, hrun, hended, v, locs, rfl, hq, hC, endMono hE hc hs⟩
theorem Goes.retVW {Q : Option Value → Heap → List Loc → Prop} {C N : Nat} (X : Stand p l e R (s.setVm vm0) m args below meth c T locs cells slots) (hS : s.Since vm0 k0) (hk : k0 ≤ T.heap.size) (hZ : Z.Warmed39 vm0) (hEL : EW Z a0 EL) (hr : CHr Z EL s.vm h0 vm0 T.heap) (hx : p.tables.exec = Jvm.exec) (hlk : meth.locks = false) (hret : meth.sig.returnType = none) {pc : Nat} {Ls : Array Slot} (hd : decode c.code pc = .ok (.return_, 1)) (hc : cells ≤ C) (hs : slots ≤ N) (hq : Q none T.heap locs) :
    Goes p e below (LeavesW Z EL h0 s Q C N) T (mkF m pc Ls []) :=
  Goes.outW X hS hk hZ hEL hr (fun _ => rfl) hlk hc hs hq fun _ q => X.returnOut hx hret hd q
theorem Goes.retWW {Q : Option Value → Heap → List Loc → Prop} {C N : Nat} (X : Stand p l e R (s.setVm vm0) m args below meth c T locs cells slots) (hS : s.Since vm0 k0) (hk : k0 ≤ T.heap.size) (hZ : Z.Warmed39 vm0) (hEL : EW Z a0 EL) (hr : CHr Z EL s.vm h0 vm0 T.heap) (hx : p.tables.exec = Jvm.exec) (hlk : meth.locks = false) {t : FieldType} {i : Instr} {w : Value} (hret : meth.sig.returnType = some t) {pc : Nat} {Ls : Array Slot} {rest : List Value} (hn : narrow t w = w)
    (hi : (i = .ireturn ∧ (t = .int ∨ t = .boolean ∨ t = .byte ∨ t = .char ∨ t = .short) ∧ ∃ z, w = .int z) ∨ (i = .lreturn ∧ t = .long ∧ ∃ z, w = .long z) ∨ (i = .dreturn ∧ t = .double ∧ ∃ z, w = .double z) ∨ (i = .freturn ∧ t = .float ∧ ∃ z, w = .float z) ∨ (i = .areturn ∧ t.isReference = true ∧ w.isRef = true))
    (hd : decode c.code pc = .ok (i, 1)) (hc : cells ≤ C) (hs : slots ≤ N) (hq : Q (some w) T.heap locs) : Goes p e below (LeavesW Z EL h0 s Q C N) T (mkF m pc Ls (w :: rest)) :=
  Goes.outW X hS hk hZ hEL hr (fun h => by rw [hret] at h; cases h) hlk hc hs hq fun _ q => retOut X hx hret hn hi hd q
theorem Goes.retBW {Q : Option Value → Heap → List Loc → Prop} {C N : Nat} (X : Stand p l e R (s.setVm vm0) m args below meth c T locs cells slots) (hS : s.Since vm0 k0) (hk : k0 ≤ T.heap.size) (hZ : Z.Warmed39 vm0) (hEL : EW Z a0 EL) (hr : CHr Z EL s.vm h0 vm0 T.heap) (hx : p.tables.exec = Jvm.exec) (hlk : meth.locks = false) {z : Int32} (hret : meth.sig.returnType = some .boolean) {pc : Nat} {Ls : Array Slot} {rest : List Value} (hz : z = 0 ∨ z = 1) (hd : decode c.code pc = .ok (.ireturn, 1)) (hc : cells ≤ C) (hs : slots ≤ N) (hq : Q (some (.int z)) T.heap locs) :
    Goes p e below (LeavesW Z EL h0 s Q C N) T (mkF m pc Ls (.int z :: rest)) := Goes.retWW X hS hk hZ hEL hr hx hlk hret (by rcases hz with rfl | rfl <;> rfl) (Or.inl ⟨rfl, Or.inr (Or.inl rfl), _, rfl⟩) hd hc hs hq
theorem Goes.retAW {Q : Option Value → Heap → List Loc → Prop} {C N : Nat} (X : Stand p l e R (s.setVm vm0) m args below meth c T locs cells slots) (hS : s.Since vm0 k0) (hk : k0 ≤ T.heap.size) (hZ : Z.Warmed39 vm0) (hEL : EW Z a0 EL) (hr : CHr Z EL s.vm h0 vm0 T.heap) (hx : p.tables.exec = Jvm.exec) (hlk : meth.locks = false) {w : Value} {t : FieldType} (hret : meth.sig.returnType = some t) (ht : t.isReference = true) (hw : w.isRef = true) {pc : Nat} {Ls : Array Slot} {rest : List Value} (hd : decode c.code pc = .ok (.areturn, 1)) (hc : cells ≤ C) (hs : slots ≤ N) (hq : Q (some w) T.heap locs) :
    Goes p e below (LeavesW Z EL h0 s Q C N) T (mkF m pc Ls (w :: rest)) := Goes.retWW X hS hk hZ hEL hr hx hlk hret (by cases t <;> first | rfl | cases ht) (Or.inr (Or.inr (Or.inr (Or.inr ⟨rfl, ht, hw⟩)))) hd hc hs hq
theorem PaysW.walk {y : MethodName} {bytes : ByteArray} {maxL : Nat} {ret : Option FieldType} {ws : List Jvm.Cond} {rm : Room} {as : Array Value} {Q : Option Value → Heap → List Loc → Prop} {Ls : Array Slot}
    (hn : plainFor y = true) (hef : ∀ m, entryFrame m as maxL = mkF m 0 Ls [])
    (body : ∀ (p : Program) (e : Env) (s : State) (m : MethodId) (below : List Frame) (meth : Method) (c : Code) (T : State), Stand p l e rm (s.setVm s.vm) m as below meth c T [] 0 0 → p.tables.exec = Jvm.exec → c.code = bytes → c.maxLocals = maxL → (s.setVm s.vm).vm.findClass y.cls = some m.cls → meth.name = y.name → Z.Warmed39 (s.setVm s.vm).vm → T.heap = h0 → meth.sig.returnType = ret → meth.locks = false → s.Since s.vm 0 → CHr Z EL s.vm h0 s.vm h0 →
      Goes p e below (LeavesW Z EL h0 s Q rm.cells rm.slots) T (mkF m 0 Ls [])) : PaysW l Z EL y bytes maxL ret ws rm as h0 Q := by
  refine MetFree.of_bodySF hn hisR ?_
  intro p e s m args below meth c s₁ Bd hml0 hP hK
  obtain ⟨rfl, hZ, rfl, hC⟩ := hP
  have X0 : Stand p l e rm s m args below meth c s₁ [] 0 0 := Stand.of_body Bd
  obtain ⟨s₂, o, h1, h2⟩ := body p e s m below meth c s₁ X0 Bd.exec Bd.bytes hml0 (findClass_of_methodNamed Bd.named) (name_of_methodNamed Bd.named Bd.method).1 hZ (by rw [Bd.state]; rfl) Bd.returns Bd.notSynchronized ((State.WarmedH.refl s).since 0) (CHr.refl hC)
  exact ⟨s₂, o, castTop (hef m) h1, h2⟩
/-- the continuation behind a callee that may have interned -/
abbrev AfterW (p : Program) (l : Launch) (e : Env) (R : Room) (s : State) (m : MethodId) (args : Array Value) (below : List Frame) (meth : Method) (c : Code) (Z : State) (EL : List (String × Nat)) (own : String) (vm0 : Vm) (h : Heap) (Q : Option Value → Heap → List Loc → Prop) (locs : List Loc) (cells slots : Nat) (P : Outcome → State → Prop) (fr : Option Value → JFrame) : Prop :=
  ∀ v T' L k', Stand p l e R (s.setVm T'.vm) m args below meth c T' (locs ++ L) cells slots → s.Since T'.vm k' → k' ≤ T'.heap.size → Z.Warmed39 (s.setVm T'.vm).vm → (s.setVm T'.vm).vm.findClass own = some m.cls → CHr Z EL vm0 h T'.vm T'.heap → Q v T'.heap L → Goes p e below P T' (fr v)
theorem Goes.callSW (X : Stand p l e R (s.setVm vm0) m args below meth c T locs cells slots) (hx : p.tables.exec = Jvm.exec) (hZ : Z.Warmed39 (s.setVm vm0).vm) (hS : s.Since vm0 k0) (hk : k0 ≤ h.size) (hEL : EW Z a0 EL) (H : CHv Z EL vm0 h) {own : String} {index : Nat} {y : MethodName} {bytes : ByteArray} {maxL : Nat} {ret : Option FieldType} {rm : Room} {as' : Array Value} {Q : Option Value → Heap → List Loc → Prop} (W : Nat)
    (hown : (s.setVm vm0).vm.findClass own = some m.cls) (w1 : (Jvm.Cond.methodLink own index y).before a0 Z = true) (w2 : (Jvm.Cond.static y).before a0 Z = true) (w3 : (Jvm.Cond.initialized y.cls).before a0 Z = true) (w4 : (Jvm.Cond.code y bytes maxL ret).before a0 Z = true) (hy : y.cls ≠ "java/lang/invoke/MethodHandle" ∧ y.cls ≠ "java/lang/invoke/VarHandle")
    (eT : T.heap = h) (hM : PaysW l Z EL y bytes maxL ret [] rm as' h Q) (hf : rm.frames + 1 ≤ R.frames) (hl : W + (maxL + 11) + rm.locals ≤ R.locals) (hc : cells + rm.cells ≤ R.cells) (hs : slots + rm.slots ≤ R.slots)
    (hg : g.method = m) (hsize : g.locals.size = c.maxLocals) {argsL rest : List Value} (has : argsL.toArray = as') (hlen : ∀ sig, parseMethodDescriptor y.desc = some sig → argsL.length = sig.parameters.length) (hstack : g.stack = argsL.reverse ++ rest) (hW : 2 * g.monitorRoom + (rest.map fun v => v.category).sum ≤ W)
    (hd : decode c.code g.pc = .ok (.invokestatic index, 3))
    (k : AfterW p l e R s m args below meth c Z EL own vm0 h Q locs (cells + rm.cells) (slots + rm.slots) P (fun v => { g with pc := g.pc + 3, stack := v.toList ++ rest })) : Goes p e below P T g := by
  obtain ⟨v, _, ⟨T', L', k', n'⟩, -, X', hS', hgr, ⟨Lc, hQ, l', y', z', hC⟩, st⟩ := callSS X hx hown (mvT hZ w1) (mvT hZ w2) (mvT hZ w3) (mvT hZ w4) hy (backOfSH (s := s) (W := W) hM hZ w4 w3 hf hl hEL H) hg hsize (argsL := argsL) (rest := rest) hlen hstack hW hd (fun _ _ => ⟨has, eT, hc, hs⟩)
  dsimp only [Pt.U, Pt.locs, Pt.cells, Pt.slots] at X' l' y' z' st hQ hS' hgr hC
  subst l' y' z'
  obtain ⟨X2, hS2, hZ2, ho2⟩ := rebS hS (n1 := h.size) hk X' hS' (by rw [← eT]; exact hgr) hZ hown
  exact Goes.on (fun _ q => st.trans q) (k v T' Lc _ X2 hS2 (Nat.le_refl _) hZ2 ho2 hC hQ)
theorem Goes.callCW (X : Stand p l e R (s.setVm vm0) m args below meth c T locs cells slots) (hx : p.tables.exec = Jvm.exec) (hZ : Z.Warmed39 (s.setVm vm0).vm) (hS : s.Since vm0 k0) (hk : k0 ≤ h.size) (hEL : EW Z a0 EL) (H : CHv Z EL vm0 h) {own : String} {index : Nat} {y : MethodName} {bytes : ByteArray} {maxL : Nat} {rm : Room} {as' : Array Value} {Q : Option Value → Heap → List Loc → Prop} (W : Nat) (hy1 : y.name = "<init>")
    (hown : (s.setVm vm0).vm.findClass own = some m.cls) (w1 : (Jvm.Cond.methodLink own index y).before a0 Z = true) (w2 : (Jvm.Cond.instanceMethod y).before a0 Z = true) (w3 : (Jvm.Cond.initialized y.cls).before a0 Z = true) (w4 : (Jvm.Cond.code y bytes maxL none).before a0 Z = true) (hy : y.cls ≠ "java/lang/invoke/MethodHandle" ∧ y.cls ≠ "java/lang/invoke/VarHandle")
    (eT : T.heap = h) (hM : PaysW l Z EL y bytes maxL none [] rm as' h Q) (hf : rm.frames + 1 ≤ R.frames) (hl : W + (maxL + 11) + rm.locals ≤ R.locals) (hc : cells + rm.cells ≤ R.cells) (hs : slots + rm.slots ≤ R.slots)
    (hg : g.method = m) (hsize : g.locals.size = c.maxLocals) {a : Addr} {argsL rest : List Value} (has : (Value.ref a :: argsL).toArray = as') (hlen : ∀ sig, parseMethodDescriptor y.desc = some sig → argsL.length = sig.parameters.length) (hstack : g.stack = argsL.reverse ++ .ref a :: rest) (hW : 2 * g.monitorRoom + (rest.map fun v => v.category).sum ≤ W)
    (hd : decode c.code g.pc = .ok (.invokespecial index, 3))
    (k : AfterW p l e R s m args below meth c Z EL own vm0 h Q locs (cells + rm.cells) (slots + rm.slots) P (fun v => { g with pc := g.pc + 3, stack := v.toList ++ rest })) : Goes p e below P T g := by
  obtain ⟨v, _, ⟨T', L', k', n'⟩, -, X', hS', hgr, ⟨Lc, hQ, l', y', z', hC⟩, st⟩ := X.specialBackS hx (y := y) hy1 hown (mvT hZ w1) (mvT hZ w2) (mvT hZ w4) hy (backOfSH (s := s) (W := W) hM hZ w4 w3 hf hl hEL H) hg hsize (Steps.refl _) (a := a) (argsL := argsL) (rest := rest) hlen hstack hW hd (fun _ _ => ⟨has, eT, hc, hs⟩)
  dsimp only [Pt.U, Pt.locs, Pt.cells, Pt.slots] at X' l' y' z' st hQ hS' hgr hC
  subst l' y' z'
  obtain ⟨X2, hS2, hZ2, ho2⟩ := rebS hS (n1 := h.size) hk X' hS' (by rw [← eT]; exact hgr) hZ hown
  exact Goes.on (fun _ q => st.trans q) (k v T' Lc _ X2 hS2 (Nat.le_refl _) hZ2 ho2 hC hQ)
theorem Goes.callVW (X : Stand p l e R (s.setVm vm0) m args below meth c T locs cells slots) (hx : p.tables.exec = Jvm.exec) (hZ : Z.Warmed39 (s.setVm vm0).vm) (hS : s.Since vm0 k0) (hk : k0 ≤ h.size) (hEL : EW Z a0 EL) (H : CHv Z EL vm0 h) {own C : String} {index : Nat} {y z : MethodName} {bytes : ByteArray} {maxL : Nat} {ret : Option FieldType} {rm : Room} {as' : Array Value} {Q : Option Value → Heap → List Loc → Prop} (W : Nat)
    (hown : (s.setVm vm0).vm.findClass own = some m.cls) (w1 : (Jvm.Cond.methodLink own index y).before a0 Z = true) (w2 : (Jvm.Cond.declares y).before a0 Z = true) (hnf : NotFace (s.setVm vm0) y) (w5 : (Jvm.Cond.selects C y z).before a0 Z = true) (w6 : (Jvm.Cond.instanceMethod z).before a0 Z = true) (w3 : (Jvm.Cond.initialized z.cls).before a0 Z = true) (w4 : (Jvm.Cond.code z bytes maxL ret).before a0 Z = true) (hy : y.cls ≠ "java/lang/invoke/MethodHandle" ∧ y.cls ≠ "java/lang/invoke/VarHandle")
    (eT : T.heap = h) {a : Addr} (E : Exa Z h a C) (hM : PaysW l Z EL z bytes maxL ret [] rm as' h Q) (hf : rm.frames + 1 ≤ R.frames) (hl : W + (maxL + 11) + rm.locals ≤ R.locals) (hc : cells + rm.cells ≤ R.cells) (hs : slots + rm.slots ≤ R.slots)
    (hg : g.method = m) (hsize : g.locals.size = c.maxLocals) {argsL rest : List Value} (has : (Value.ref a :: argsL).toArray = as') (hlen : ∀ sig, parseMethodDescriptor y.desc = some sig → argsL.length = sig.parameters.length) (hstack : g.stack = argsL.reverse ++ .ref a :: rest) (hW : 2 * g.monitorRoom + (rest.map fun v => v.category).sum ≤ W)
    (hd : decode c.code g.pc = .ok (.invokevirtual index, 3))
    (k : AfterW p l e R s m args below meth c Z EL own vm0 h Q locs (cells + rm.cells) (slots + rm.slots) P (fun v => { g with pc := g.pc + 3, stack := v.toList ++ rest })) : Goes p e below P T g := by
  obtain ⟨cq, kq, qa, qb, qc⟩ := isOf hZ eT E
  obtain ⟨v, _, ⟨T', L', k', n'⟩, -, X', hS', hgr, ⟨Lc, hQ, l', y', z', hC⟩, st⟩ := X.virtualBackS hx (y := y) (z := z) hown (mvT hZ w1) (mvT hZ w2) hnf (mvT hZ w5) (mvT hZ w6) hy (backOfSH (s := s) (W := W) hM hZ w4 w3 hf hl hEL H) qa qc hg hsize (Steps.refl _) (argsL := argsL) (rest := rest) hlen hstack hW hd (fun _ _ => ⟨has, eT, hc, hs⟩)
  dsimp only [Pt.U, Pt.locs, Pt.cells, Pt.slots] at X' l' y' z' st hQ hS' hgr hC
  subst l' y' z'
  obtain ⟨X2, hS2, hZ2, ho2⟩ := rebS hS (n1 := h.size) hk X' hS' (by rw [← eT]; exact hgr) hZ hown
  exact Goes.on (fun _ q => st.trans q) (k v T' Lc _ X2 hS2 (Nat.le_refl _) hZ2 ho2 hC hQ)
end StepsW
end Jvm.Own
namespace Jvm.Pilot.@@N@@
open Jvm Jvm.ClassFile Sem Op Lib Jvm.Free Jvm.Stand Jvm.LawKit Jvm.RoadKit Bundle Jvm.Own Jvm.Pilot.@@N@@.Jvm.D
theorem own_w {Z : State} {a0 : Array Value} (hw : ∀ d ∈ tables_1, d.before a0 Z = true) (i : Nat) {d : Jvm.Cond} (h : tables_1[i]? = some d) : d.before a0 Z = true := hw d (List.mem_of_getElem? h)
theorem own_wS {Z : State} {a0 : Array Value} (hw : ∀ d ∈ tables_1, d.before a0 Z = true) : ∀ d ∈ Bundle.stringAtoms, d.before a0 Z = true := by
  intro d hd
  simp only [Bundle.stringAtoms, List.mem_cons, List.not_mem_nil, or_false] at hd
  rcases hd with rfl | rfl | rfl | rfl | rfl | rfl | rfl
  · exact own_w hw 9 rfl
  · exact own_w hw 8 rfl
  · exact own_w hw 26 rfl
  · exact own_w hw 36 rfl
  · exact own_w hw 34 rfl
  · exact own_w hw 50 rfl
  · exact own_w hw 51 rfl
theorem own_EW {Z : State} {a0 : Array Value} (hw : ∀ d ∈ tables_1, d.before a0 Z = true) : EW Z a0 consts_1 := (EW.cons (own_w hw 49 rfl) (by decide) (EW.cons (own_w hw 62 rfl) (by decide) EW.nil))
theorem own_hnew {Z : State} {a0 : Array Value} (hw : ∀ d ∈ tables_1, d.before a0 Z = true) : ∀ d ∈ StrChars.Road.words, d.before a0 Z = true := by
  intro d hd
  simp only [StrChars.Road.words, List.mem_cons, List.not_mem_nil, or_false] at hd
  rcases hd with rfl | rfl | rfl | rfl | rfl | rfl | rfl | rfl | rfl | rfl | rfl | rfl | rfl | rfl | rfl | rfl | rfl | rfl | rfl | rfl | rfl | rfl | rfl | rfl
  · exact hw _ (List.mem_of_getElem? (i := 13) rfl)
  · exact hw _ (List.mem_of_getElem? (i := 9) rfl)
  · exact hw _ (List.mem_of_getElem? (i := 14) rfl)
  · exact hw _ (List.mem_of_getElem? (i := 15) rfl)
  · exact hw _ (List.mem_of_getElem? (i := 17) rfl)
  · exact hw _ (List.mem_of_getElem? (i := 21) rfl)
  · exact hw _ (List.mem_of_getElem? (i := 36) rfl)
  · exact hw _ (List.mem_of_getElem? (i := 35) rfl)
  · exact hw _ (List.mem_of_getElem? (i := 34) rfl)
  · exact hw _ (List.mem_of_getElem? (i := 33) rfl)
  · exact hw _ (List.mem_of_getElem? (i := 18) rfl)
  · exact hw _ (List.mem_of_getElem? (i := 19) rfl)
  · exact hw _ (List.mem_of_getElem? (i := 20) rfl)
  · exact hw _ (List.mem_of_getElem? (i := 22) rfl)
  · exact hw _ (List.mem_of_getElem? (i := 23) rfl)
  · exact hw _ (List.mem_of_getElem? (i := 30) rfl)
  · exact hw _ (List.mem_of_getElem? (i := 31) rfl)
  · exact hw _ (List.mem_of_getElem? (i := 25) rfl)
  · exact hw _ (List.mem_of_getElem? (i := 24) rfl)
  · exact hw _ (List.mem_of_getElem? (i := 26) rfl)
  · exact hw _ (List.mem_of_getElem? (i := 27) rfl)
  · exact hw _ (List.mem_of_getElem? (i := 28) rfl)
  · exact hw _ (List.mem_of_getElem? (i := 29) rfl)
  · exact hw _ (List.mem_of_getElem? (i := 32) rfl)
theorem own_lt1 {P : Nat → Prop} (h0 : P 0) : ∀ i, i < 1 → P i := by
  intro i hi
  obtain rfl : i = 0 := by omega
  exact h0
theorem own_lt2 {P : Nat → Prop} (h0 : P 0) (h1 : P 1) : ∀ i, i < 2 → P i := by
  intro i hi
  by_cases q : i = 0
  · subst q; exact h0
  · obtain rfl : i = 1 := by omega
    exact h1
theorem own_is1 {z : Int32} {p : Prop} (hP : z = 1 ↔ p) (h : p) : some (Value.int 1) = some (Value.int z) := by rw [hP.mpr h]
theorem own_is0 {z : Int32} {p : Prop} (hz : z = 0 ∨ z = 1) (hP : z = 1 ↔ p) (h : ¬ p) : some (Value.int 0) = some (Value.int z) := by
  rcases hz with q | q
  · rw [q]
  · exact absurd (hP.mp q) h
theorem own_nz {z : Int32} (hz : z = 0 ∨ z = 1) (h : ¬ z = 0) : some (Value.int 1) = some (Value.int z) := by
  rcases hz with q | q
  · exact absurd q h
  · rw [q]
theorem own_z {z : Int32} (h : z = 0) : some (Value.int 0) = some (Value.int z) := by rw [h]
theorem own_T {p : Prop} (h : p) : (1 : Int32) = 1 ↔ p := ⟨fun _ => h, fun _ => rfl⟩
theorem own_F {p : Prop} (h : ¬ p) : (0 : Int32) = 1 ↔ p := ⟨fun q => absurd q (by decide), fun q => absurd q h⟩
theorem own_s1 {u v : Int32} (h : ∀ i, i < 1 → [Value.int u].getD i (.int 0) = [Value.int v].getD i (.int 0)) : u = v := Value.int.inj (h 0 (by decide))
theorem own_s2 {u0 u1 v0 v1 : Int32} (h : ∀ i, i < 2 → [Value.int u0, Value.int u1].getD i (.int 0) = [Value.int v0, Value.int v1].getD i (.int 0)) : u0 = v0 ∧ u1 = v1 := ⟨Value.int.inj (h 0 (by decide)), Value.int.inj (h 1 (by decide))⟩
theorem own_inj {c d : Int32} (hc : ¬ c < 0 ∧ ¬ (255 : Int32) < c) (hd : ¬ d < 0 ∧ ¬ (255 : Int32) < d) (h : c.toInt8.toInt32 = d.toInt8.toInt32) : c = d := by
  have h' := congrArg Int32.toInt h
  rw [Int8.toInt_toInt32, Int8.toInt_toInt32, Int32.toInt_toInt8, Int32.toInt_toInt8, Int.bmod_def, Int.bmod_def] at h'
  have k : (255 : Int32).toInt = 255 := rfl
  have k0 : (0 : Int32).toInt = 0 := rfl
  simp only [Int32.lt_iff_toInt_lt, k, k0] at hc hd
  apply Int32.toInt_inj.mp
  split at h' <;> split at h' <;> omega
theorem own_fitN {c : Int32} (h : nar .char c = c) : fits .char (.int c) = true := by
  have := fits_nar_char c
  rwa [h] at this
theorem own_same {Z : State} {h : Heap} {r b r' b' : Addr} {k k' : ClassId} {N N' : Int32} {vs vs' : List Value} (F : Str Z h r b k N vs) (G : Str Z h r' b' k' N' vs') (e : r = r') {n : Nat} (hn : N.toNatClampNeg = n) : N'.toNatClampNeg = n ∧ ∀ i, i < n → vs.getD i (.int 0) = vs'.getD i (.int 0) := by
  subst e
  by_cases q : b = b'
  · subst q
    obtain ⟨c, A, -, S, -, H, -⟩ := F.2.2.2
    obtain ⟨c', A', -, S', -, H', -⟩ := G.2.2.2
    cases A.1.symm.trans A'.1
    exact ⟨by omega, fun i hi => Option.some.inj ((H i (by omega)).symm.trans (H' i (by omega)))⟩
  · exact absurd rfl (Fld.ne F.2.2.1 G.2.2.1 (fun z => q (Value.ref.inj z)))
theorem d2_0 : decode method_2_code 0 = .ok (.iload_n 0, 1) := by decide +kernel
theorem d2_1 : decode method_2_code 1 = .ok (.ifCond .ne 5, 3) := by decide +kernel
theorem d2_4 : decode method_2_code 4 = .ok (.iconst 1, 1) := by decide +kernel
theorem d2_5 : decode method_2_code 5 = .ok (.ireturn, 1) := by decide +kernel
theorem d2_6 : decode method_2_code 6 = .ok (.iload_n 0, 1) := by decide +kernel
theorem d2_7 : decode method_2_code 7 = .ok (.bipush 47, 2) := by decide +kernel
theorem d2_9 : decode method_2_code 9 = .ok (.if_icmp .ne 6, 3) := by decide +kernel
theorem d2_12 : decode method_2_code 12 = .ok (.bipush 48, 2) := by decide +kernel
theorem d2_14 : decode method_2_code 14 = .ok (.ireturn, 1) := by decide +kernel
theorem d2_15 : decode method_2_code 15 = .ok (.iload_n 0, 1) := by decide +kernel
theorem d2_16 : decode method_2_code 16 = .ok (.i2c, 1) := by decide +kernel
theorem d2_17 : decode method_2_code 17 = .ok (.ireturn, 1) := by decide +kernel
theorem ef_0 (m : MethodId) (x0 : Int32) : entryFrame m #[(.int x0)] 1 = mkF m 0 #[.val (.int x0)] [] := by first | (simp [entryFrame, mkF, argsToLocals, Value.category]; done) | rfl
theorem pn_0 : plainName "com/example/narada/narada/ObjectAddressEqualsPinLaw" = true := by first | (simp [plainName, overriddenIn]; done) | decide +kernel
def Ffix (x0 : Int32) : Int32 := (if x0 = (0 : Int32) then (1 : Int32) else (if x0 = (47 : Int32) then (48 : Int32) else x0.toUInt32.toUInt16.toUInt32.toInt32))
set_option maxRecDepth 65536 in
set_option maxHeartbeats 40000000 in
theorem rmfix (l : Launch) (Z : State) (a0 : Array Value) (hw : ∀ d ∈ tables_1, d.before a0 Z = true) (x0 : Int32) (h0 : Heap) (n0 : Nat) (Z0 : n0 ≤ h0.size) :
    Pays l Z (⟨"com/example/narada/narada/ObjectAddressEqualsPinLaw", "fix", "(I)C"⟩ : MethodName) method_2_code 1 (some .char) [] ({ frames := 0, cells := 0, slots := 0, locals := 0 } : Room) #[(.int x0)] h0 (fun v h L => v = some (.int (Ffix x0)) ∧ Fr n0 L ∧ h = h0) := by
  refine Pays.walk (plainFor_of_name pn_0) (fun m => ef_0 m x0 ) ?_
  intro p e s m below meth c T0 X0 hx hby hml hown hnm hZ e0 hret hlk
  have N0 := Fr.nil n0
  refine Goes.on (T' := T0) (g' := (mkF m 1 #[.val (.int x0)] [(.int x0)])) (fun _ k => XS.iloadN X0.here hx rfl (hb hby d2_0) rfl k) ?_
  by_cases hc1 : x0 = (0 : Int32)
  · refine Goes.on (T' := T0) (g' := (mkF m 5 #[.val (.int x0)] [(.int (1 : Int32))])) (fun _ k => XS.ifNo X0.here hx rfl (hb hby d2_1) rfl (XT.i0_ne_f hc1) (XS.iconst X0.here hx rfl (hb hby d2_4) k)) ?_
    exact Goes.retC X0 hx hlk hret rfl (hb hby d2_5) (by decide) (by decide) ⟨(by unfold Ffix; rw [if_pos hc1]), N0, e0⟩
  · refine Goes.on (T' := T0) (g' := (mkF m 9 #[.val (.int x0)] [(.int (47 : Int32)), (.int x0)])) (fun _ k => XS.ifYes X0.here hx rfl (pc0 := 1) (pc' := 6) rfl (hb hby d2_1) rfl (XT.i0_ne_t hc1) (by decide) (by decide) (XS.iloadN X0.here hx rfl (hb hby d2_6) rfl (XS.bipush X0.here hx rfl (hb hby d2_7) k))) ?_
    by_cases hc2 : x0 = (47 : Int32)
    · refine Goes.on (T' := T0) (g' := (mkF m 14 #[.val (.int x0)] [(.int (48 : Int32))])) (fun _ k => XS.icmpNo X0.here hx rfl (hb hby d2_9) rfl (XT.ii_ne_f hc2) (XS.bipush X0.here hx rfl (hb hby d2_12) k)) ?_
      exact Goes.retC X0 hx hlk hret rfl (hb hby d2_14) (by decide) (by decide) ⟨(by unfold Ffix; rw [if_neg hc1, if_pos hc2]), N0, e0⟩
    · refine Goes.on (T' := T0) (g' := (mkF m 17 #[.val (.int x0)] [(.int (x0.toUInt32.toUInt16.toUInt32.toInt32))])) (fun _ k => XS.icmpYes X0.here hx rfl (pc0 := 9) (pc' := 15) rfl (hb hby d2_9) rfl (XT.ii_ne_t hc2) (by decide) (by decide) (XS.iloadN X0.here hx rfl (hb hby d2_15) rfl (XS.i2c X0.here hx rfl (hb hby d2_16) rfl k))) ?_
      exact Goes.retC X0 hx hlk hret (narC _) (hb hby d2_17) (by decide) (by decide) ⟨(by unfold Ffix; rw [if_neg hc1, if_neg hc2]), N0, e0⟩
def own_CH (c : Int32) : Prop := nar .char c = c ∧ (¬ c < 0 ∧ ¬ (255 : Int32) < c) ∧ ¬ c = 0 ∧ ¬ c = 47
theorem own_fix (x : Int32) : own_CH (Ffix (x &&& (255 : Int32))) := by
  have hb : ¬ (x &&& (255 : Int32)).toUInt32.toUInt16.toUInt32.toInt32 < 0 ∧ ¬ (255 : Int32) < (x &&& (255 : Int32)).toUInt32.toUInt16.toUInt32.toInt32 := by
    rw [i2c_mask, Int32.lt_iff_toInt_lt, Int32.lt_iff_toInt_lt, c_mask x (255 : Int32) 8 (by decide) (by decide)]
    have k : (255 : Int32).toInt = 255 := rfl
    have k0 : (0 : Int32).toInt = 0 := rfl
    omega
  unfold Ffix
  split
  · exact ⟨rfl, by decide, by decide, by decide⟩
  · split
    · exact ⟨rfl, by decide, by decide, by decide⟩
    · rename_i h1 h2
      exact ⟨narC _, hb, by rw [i2c_mask]; exact h1, by rw [i2c_mask]; exact h2⟩
theorem own_x : own_CH (120 : Int32) := ⟨rfl, by decide, by decide, by decide⟩
theorem own_up {c : Int32} (hc : own_CH c) : (c.toInt8.toInt32 &&& (255 : Int32)).toUInt32.toUInt16.toUInt32.toInt32 = c := by
  rw [i2c_mask]
  apply Int32.toInt_inj.mp
  rw [c_mask _ (255 : Int32) 8 (by decide) (by decide), Int8.toInt_toInt32, Int32.toInt_toInt8, Int.bmod_def]
  have h := hc.2.1
  have k : (255 : Int32).toInt = 255 := rfl
  have k0 : (0 : Int32).toInt = 0 := rfl
  simp only [Int32.lt_iff_toInt_lt, k, k0] at h
  split <;> omega
theorem own_b46 {c : Int32} (hc : own_CH c) (h : c.toInt8.toInt32 = (46 : Int32)) : c = 46 := own_inj hc.2.1 (by decide) (h.trans (by decide))
theorem own_b47 {c : Int32} (hc : own_CH c) : ¬ c.toInt8.toInt32 = (47 : Int32).toInt8.toInt32 := fun h => hc.2.2.2 (own_inj hc.2.1 (by decide) h)
theorem own_b0 {c : Int32} (hc : own_CH c) : ¬ c.toInt8.toInt32 = (0 : Int32).toInt8.toInt32 := fun h => hc.2.2.1 (own_inj hc.2.1 (by decide) h)
theorem own_one {P : Int32 → Prop} {a : Int32} (ha : P a) : ∀ c ∈ [a], P c := by
  intro c hc
  rcases List.mem_cons.mp hc with rfl | hc
  · exact ha
  · cases hc
theorem own_two {P : Int32 → Prop} {a b : Int32} (ha : P a) (hb : P b) : ∀ c ∈ [a, b], P c := by
  intro c hc
  rcases List.mem_cons.mp hc with rfl | hc
  · exact ha
  · exact own_one hb c hc
theorem d10_0 : decode jdk_42_method_55_code 0 = .ok (.aload_n 0, 1) := by decide +kernel
theorem d10_1 : decode jdk_42_method_55_code 1 = .ok (.getfield 9, 3) := by decide +kernel
theorem d10_4 : decode jdk_42_method_55_code 4 = .ok (.arraylength, 1) := by decide +kernel
theorem d10_5 : decode jdk_42_method_55_code 5 = .ok (.ifCond .ne 7, 3) := by decide +kernel
theorem d10_12 : decode jdk_42_method_55_code 12 = .ok (.iconst 0, 1) := by decide +kernel
theorem d10_13 : decode jdk_42_method_55_code 13 = .ok (.ireturn, 1) := by decide +kernel
theorem ef_1 (m : MethodId) (x0 : Addr) : entryFrame m #[(.ref x0)] 1 = mkF m 0 #[.val (.ref x0)] [] := by first | (simp [entryFrame, mkF, argsToLocals, Value.category]; done) | rfl
theorem pn_1 : plainName "java/lang/String" = true := by first | (simp [plainName, overriddenIn]; done) | decide +kernel
set_option maxRecDepth 65536 in
set_option maxHeartbeats 40000000 in
theorem rmEm_1 (l : Launch) (Z : State) (a0 : Array Value) (hw : ∀ d ∈ tables_1, d.before a0 Z = true) (a : Addr) (u0 : Int32)  (h0 : Heap) (n0 : Nat) (Z0 : n0 ≤ h0.size) (O0 : Old Z n0 h0) (cs : Int32) (SC : Sta Z Z.heap "java/lang/String" "COMPACT_STRINGS" "Z" (.int cs)) (hcs : ¬ cs = (0 : Int32)) (ya : Addr) (ka : ClassId) (PA : Str Z h0 a ya ka (Int32.ofNat 1) [Value.int u0]) :
    Pays l Z (⟨"java/lang/String", "isEmpty", "()Z"⟩ : MethodName) jdk_42_method_55_code 1 (some .boolean) [] ({ frames := 0, cells := 0, slots := 0, locals := 0 } : Room) #[(.ref a)] h0 (fun v h L => v = some (.int (0 : Int32)) ∧ Fr n0 L ∧ h = h0) := by
  refine Pays.walk (plainFor_of_name pn_1) (fun m => ef_1 m a ) ?_
  intro p e s m below meth c T0 X0 hx hby hml hown hnm hZ e0 hret hlk
  have N0 := Fr.nil n0
  have BA : Arf Z h0 ya .byte Value.int 1 (fun i => ([u0] : List Int32).getD i 0) := Arv.arf PA.2.2.2 (by decide) (own_lt1 rfl)
  refine Goes.on (T' := T0) (g' := (mkF m 1 #[.val (.ref a)] [(.ref a)])) (fun _ k => XS.aloadN X0.here hx rfl (hb hby d10_0) rfl rfl k) ?_
  obtain ⟨T1, X1, e1, st1⟩ := getF X0 hx hZ hown (host := "") (Or.inl (own_w hw 35 rfl)) Via.refl e0 PA.2.2.1 (g := (mkF m 1 #[.val (.ref a)] [(.ref a)])) rfl rfl (hb hby d10_1)
  refine Goes.on (T' := T1) (g' := (mkF m 13 #[.val (.ref a)] [(.int (0 : Int32))])) (fun _ k => st1 _ (aLenm X1 hx hZ e1 BA (hb hby d10_4) (XS.ifYes X1.here hx rfl (pc0 := 5) (pc' := 12) rfl (hb hby d10_5) rfl (XT.i0_ne_t (by decide)) (by decide) (by decide) (XS.iconst X1.here hx rfl (hb hby d10_12) k)))) ?_
  exact Goes.retB X1 hx hlk hret (Or.inl rfl) (hb hby d10_13) (by decide) (by decide) ⟨rfl, N0, e1⟩
theorem d17_0 : decode jdk_42_method_152_code 0 = .ok (.getstatic 38, 3) := by decide +kernel
theorem d17_3 : decode jdk_42_method_152_code 3 = .ok (.ifCond .eq 10, 3) := by decide +kernel
theorem d17_6 : decode jdk_42_method_152_code 6 = .ok (.aload_n 0, 1) := by decide +kernel
theorem d17_7 : decode jdk_42_method_152_code 7 = .ok (.getfield 15, 3) := by decide +kernel
theorem d17_10 : decode jdk_42_method_152_code 10 = .ok (.goto 4, 3) := by decide +kernel
theorem d17_14 : decode jdk_42_method_152_code 14 = .ok (.ireturn, 1) := by decide +kernel
set_option maxRecDepth 65536 in
set_option maxHeartbeats 40000000 in
theorem rmCo_1 (l : Launch) (Z : State) (a0 : Array Value) (hw : ∀ d ∈ tables_1, d.before a0 Z = true) (a : Addr) (u0 : Int32)  (h0 : Heap) (n0 : Nat) (Z0 : n0 ≤ h0.size) (O0 : Old Z n0 h0) (cs : Int32) (SC : Sta Z Z.heap "java/lang/String" "COMPACT_STRINGS" "Z" (.int cs)) (hcs : ¬ cs = (0 : Int32)) (ya : Addr) (ka : ClassId) (PA : Str Z h0 a ya ka (Int32.ofNat 1) [Value.int u0]) :
    Pays l Z (⟨"java/lang/String", "coder", "()B"⟩ : MethodName) jdk_42_method_152_code 1 (some .byte) [] ({ frames := 0, cells := 0, slots := 0, locals := 0 } : Room) #[(.ref a)] h0 (fun v h L => v = some (.int (0 : Int32)) ∧ Fr n0 L ∧ h = h0) := by
  refine Pays.walk (plainFor_of_name pn_1) (fun m => ef_1 m a ) ?_
  intro p e s m below meth c T0 X0 hx hby hml hown hnm hZ e0 hret hlk
  have N0 := Fr.nil n0
  have BA : Arf Z h0 ya .byte Value.int 1 (fun i => ([u0] : List Int32).getD i 0) := Arv.arf PA.2.2.2 (by decide) (own_lt1 rfl)
  obtain ⟨T1, X1, e1, st1⟩ := getS (host := "") X0 hx hZ hown (own_w hw 21 rfl) Via.refl e0 (Sta.ext O0.2 SC) (g := (mkF m 0 #[.val (.ref a)] [])) rfl (hb hby d17_0)
  refine Goes.on (T' := T1) (g' := (mkF m 7 #[.val (.ref a)] [(.ref a)])) (fun _ k => st1 _ (XS.ifNo X1.here hx rfl (hb hby d17_3) rfl (XT.i0_eq_f hcs) (XS.aloadN X1.here hx rfl (hb hby d17_6) rfl rfl k))) ?_
  obtain ⟨T2, X2, e2, st2⟩ := getF X1 hx hZ hown (host := "") (Or.inl (own_w hw 33 rfl)) Via.refl e1 PA.2.1 (g := (mkF m 7 #[.val (.ref a)] [(.ref a)])) rfl rfl (hb hby d17_7)
  refine Goes.on (T' := T2) (g' := (mkF m 14 #[.val (.ref a)] [(.int (0 : Int32))])) (fun _ k => st2 _ (XS.goto X2.here hx rfl (pc0 := 10) (pc' := 14) rfl (hb hby d17_10) (by decide) (by decide) k)) ?_
  exact Goes.retY X2 hx hlk hret rfl (hb hby d17_14) (by decide) (by decide) ⟨rfl, N0, e2⟩
theorem d15_0 : decode jdk_42_method_154_code 0 = .ok (.getstatic 38, 3) := by decide +kernel
theorem d15_3 : decode jdk_42_method_154_code 3 = .ok (.ifCond .eq 14, 3) := by decide +kernel
theorem d15_6 : decode jdk_42_method_154_code 6 = .ok (.aload_n 0, 1) := by decide +kernel
theorem d15_7 : decode jdk_42_method_154_code 7 = .ok (.getfield 15, 3) := by decide +kernel
theorem d15_10 : decode jdk_42_method_154_code 10 = .ok (.ifCond .ne 7, 3) := by decide +kernel
theorem d15_13 : decode jdk_42_method_154_code 13 = .ok (.iconst 1, 1) := by decide +kernel
theorem d15_14 : decode jdk_42_method_154_code 14 = .ok (.goto 4, 3) := by decide +kernel
theorem d15_18 : decode jdk_42_method_154_code 18 = .ok (.ireturn, 1) := by decide +kernel
set_option maxRecDepth 65536 in
set_option maxHeartbeats 40000000 in
theorem rmIl_1 (l : Launch) (Z : State) (a0 : Array Value) (hw : ∀ d ∈ tables_1, d.before a0 Z = true) (a : Addr) (u0 : Int32)  (h0 : Heap) (n0 : Nat) (Z0 : n0 ≤ h0.size) (O0 : Old Z n0 h0) (cs : Int32) (SC : Sta Z Z.heap "java/lang/String" "COMPACT_STRINGS" "Z" (.int cs)) (hcs : ¬ cs = (0 : Int32)) (ya : Addr) (ka : ClassId) (PA : Str Z h0 a ya ka (Int32.ofNat 1) [Value.int u0]) :
    Pays l Z (⟨"java/lang/String", "isLatin1", "()Z"⟩ : MethodName) jdk_42_method_154_code 1 (some .boolean) [] ({ frames := 0, cells := 0, slots := 0, locals := 0 } : Room) #[(.ref a)] h0 (fun v h L => v = some (.int (1 : Int32)) ∧ Fr n0 L ∧ h = h0) := by
  refine Pays.walk (plainFor_of_name pn_1) (fun m => ef_1 m a ) ?_
  intro p e s m below meth c T0 X0 hx hby hml hown hnm hZ e0 hret hlk
  have N0 := Fr.nil n0
  have BA : Arf Z h0 ya .byte Value.int 1 (fun i => ([u0] : List Int32).getD i 0) := Arv.arf PA.2.2.2 (by decide) (own_lt1 rfl)
  obtain ⟨T1, X1, e1, st1⟩ := getS (host := "") X0 hx hZ hown (own_w hw 21 rfl) Via.refl e0 (Sta.ext O0.2 SC) (g := (mkF m 0 #[.val (.ref a)] [])) rfl (hb hby d15_0)
  refine Goes.on (T' := T1) (g' := (mkF m 7 #[.val (.ref a)] [(.ref a)])) (fun _ k => st1 _ (XS.ifNo X1.here hx rfl (hb hby d15_3) rfl (XT.i0_eq_f hcs) (XS.aloadN X1.here hx rfl (hb hby d15_6) rfl rfl k))) ?_
  obtain ⟨T2, X2, e2, st2⟩ := getF X1 hx hZ hown (host := "") (Or.inl (own_w hw 33 rfl)) Via.refl e1 PA.2.1 (g := (mkF m 7 #[.val (.ref a)] [(.ref a)])) rfl rfl (hb hby d15_7)
  refine Goes.on (T' := T2) (g' := (mkF m 18 #[.val (.ref a)] [(.int (1 : Int32))])) (fun _ k => st2 _ (XS.ifNo X2.here hx rfl (hb hby d15_10) rfl (XT.i0_ne_f (by decide)) (XS.iconst X2.here hx rfl (hb hby d15_13) (XS.goto X2.here hx rfl (pc0 := 14) (pc' := 18) rfl (hb hby d15_14) (by decide) (by decide) k)))) ?_
  exact Goes.retB X2 hx hlk hret (Or.inr rfl) (hb hby d15_18) (by decide) (by decide) ⟨rfl, N0, e2⟩
theorem d16_0 : decode jdk_42_method_54_code 0 = .ok (.aload_n 0, 1) := by decide +kernel
theorem d16_1 : decode jdk_42_method_54_code 1 = .ok (.getfield 9, 3) := by decide +kernel
theorem d16_4 : decode jdk_42_method_54_code 4 = .ok (.arraylength, 1) := by decide +kernel
theorem d16_5 : decode jdk_42_method_54_code 5 = .ok (.aload_n 0, 1) := by decide +kernel
theorem pd_0 : parseMethodDescriptor "()B" = some ⟨[], some .byte⟩ := by decide +kernel
theorem d16_6 : decode jdk_42_method_54_code 6 = .ok (.invokevirtual 335, 3) := by decide +kernel
theorem d16_9 : decode jdk_42_method_54_code 9 = .ok (.ishr, 1) := by decide +kernel
theorem d16_10 : decode jdk_42_method_54_code 10 = .ok (.ireturn, 1) := by decide +kernel
set_option maxRecDepth 65536 in
set_option maxHeartbeats 40000000 in
theorem rmLn_1 (l : Launch) (Z : State) (a0 : Array Value) (hw : ∀ d ∈ tables_1, d.before a0 Z = true) (a : Addr) (u0 : Int32)  (h0 : Heap) (n0 : Nat) (Z0 : n0 ≤ h0.size) (O0 : Old Z n0 h0) (cs : Int32) (SC : Sta Z Z.heap "java/lang/String" "COMPACT_STRINGS" "Z" (.int cs)) (hcs : ¬ cs = (0 : Int32)) (ya : Addr) (ka : ClassId) (PA : Str Z h0 a ya ka (Int32.ofNat 1) [Value.int u0]) :
    Pays l Z (⟨"java/lang/String", "length", "()I"⟩ : MethodName) jdk_42_method_54_code 1 (some .int) [] ({ frames := 1, cells := 0, slots := 0, locals := 13 } : Room) #[(.ref a)] h0 (fun v h L => v = some (.int (1 : Int32)) ∧ Fr n0 L ∧ h = h0) := by
  refine Pays.walk (plainFor_of_name pn_1) (fun m => ef_1 m a ) ?_
  intro p e s m below meth c T0 X0 hx hby hml hown hnm hZ e0 hret hlk
  have N0 := Fr.nil n0
  have BA : Arf Z h0 ya .byte Value.int 1 (fun i => ([u0] : List Int32).getD i 0) := Arv.arf PA.2.2.2 (by decide) (own_lt1 rfl)
  refine Goes.on (T' := T0) (g' := (mkF m 1 #[.val (.ref a)] [(.ref a)])) (fun _ k => XS.aloadN X0.here hx rfl (hb hby d16_0) rfl rfl k) ?_
  obtain ⟨T1, X1, e1, st1⟩ := getF X0 hx hZ hown (host := "") (Or.inl (own_w hw 35 rfl)) Via.refl e0 PA.2.2.1 (g := (mkF m 1 #[.val (.ref a)] [(.ref a)])) rfl rfl (hb hby d16_1)
  refine Goes.on (T' := T1) (g' := (mkF m 6 #[.val (.ref a)] [(.ref a), (.int (1 : Int32))])) (fun _ k => st1 _ (aLenm X1 hx hZ e1 BA (hb hby d16_4) (XS.aloadN X1.here hx rfl (hb hby d16_5) rfl rfl k))) ?_
  refine Goes.callV X1 hx hZ 1 hown (own_w hw 83 rfl) (own_w hw 84 rfl) (notFace_of_selects (args := #[]) (mvT hZ (own_w hw 86 rfl))) (own_w hw 86 rfl) (own_w hw 85 rfl) (own_w hw 9 rfl) (own_w hw 87 rfl) (by decide) e1 PA.1 (rmCo_1 l Z a0 hw a u0 h0 n0 Z0 O0 cs SC hcs ya ka PA) (by decide) (by decide) (by decide) (by decide) rfl (by rw [hml]; rfl) (argsL := []) (rest := [(.int (1 : Int32))]) rfl (lenOf pd_0 rfl) rfl (by show 2 * 0 + _ ≤ _; exact Nat.le_of_eq rfl) (hb hby d16_6) ?_
  intro v3 T3 L3 X3 hQ3
  obtain ⟨rfl, N3q, e3⟩ := hQ3
  have N3 := Fr.app N0 N3q
  show Goes p e below _ T3 (mkF m 9 #[.val (.ref a)] [(.int (0 : Int32)), (.int (1 : Int32))])
  refine Goes.on (T' := T3) (g' := (mkF m 10 #[.val (.ref a)] [(.int (1 : Int32))])) (fun _ k => XS.ishr X3.here hx rfl (hb hby d16_9) rfl k) ?_
  exact Goes.retI X3 hx hlk hret (hb hby d16_10) (by decide) (by decide) ⟨rfl, N3, e3⟩
theorem d19_0 : decode jdk_43_method_4_code 0 = .ok (.iload_n 0, 1) := by decide +kernel
theorem d19_1 : decode jdk_43_method_4_code 1 = .ok (.ifCond .lt 14, 3) := by decide +kernel
theorem d19_4 : decode jdk_43_method_4_code 4 = .ok (.iload_n 0, 1) := by decide +kernel
theorem d19_5 : decode jdk_43_method_4_code 5 = .ok (.sipush 255, 3) := by decide +kernel
theorem d19_8 : decode jdk_43_method_4_code 8 = .ok (.if_icmp .gt 7, 3) := by decide +kernel
theorem d19_11 : decode jdk_43_method_4_code 11 = .ok (.iconst 1, 1) := by decide +kernel
theorem d19_12 : decode jdk_43_method_4_code 12 = .ok (.goto 4, 3) := by decide +kernel
theorem d19_16 : decode jdk_43_method_4_code 16 = .ok (.ireturn, 1) := by decide +kernel
theorem pn_2 : plainName "java/lang/StringLatin1" = true := by first | (simp [plainName, overriddenIn]; done) | decide +kernel
set_option maxRecDepth 65536 in
set_option maxHeartbeats 40000000 in
theorem rmCE47 (l : Launch) (Z : State) (a0 : Array Value) (hw : ∀ d ∈ tables_1, d.before a0 Z = true)  (h0 : Heap) (n0 : Nat) (Z0 : n0 ≤ h0.size) :
    Pays l Z (⟨"java/lang/StringLatin1", "canEncode", "(I)Z"⟩ : MethodName) jdk_43_method_4_code 1 (some .boolean) [] ({ frames := 0, cells := 0, slots := 0, locals := 0 } : Room) #[(.int (47 : Int32))] h0 (fun v h L => v = some (.int (1 : Int32)) ∧ Fr n0 L ∧ h = h0) := by
  refine Pays.walk (plainFor_of_name pn_2) (fun m => ef_0 m (47 : Int32) ) ?_
  intro p e s m below meth c T0 X0 hx hby hml hown hnm hZ e0 hret hlk
  have N0 := Fr.nil n0
  refine Goes.on (T' := T0) (g' := (mkF m 16 #[.val (.int (47 : Int32))] [(.int (1 : Int32))])) (fun _ k => XS.iloadN X0.here hx rfl (hb hby d19_0) rfl (XS.ifNo X0.here hx rfl (hb hby d19_1) rfl (XT.i0_lt_f (by decide)) (XS.iloadN X0.here hx rfl (hb hby d19_4) rfl (XS.sipush X0.here hx rfl (hb hby d19_5) (XS.icmpNo X0.here hx rfl (hb hby d19_8) rfl (XT.ii_gt_f (by decide)) (XS.iconst X0.here hx rfl (hb hby d19_11) (XS.goto X0.here hx rfl (pc0 := 12) (pc' := 16) rfl (hb hby d19_12) (by decide) (by decide) k))))))) ?_
  exact Goes.retB X0 hx hlk hret (Or.inr rfl) (hb hby d19_16) (by decide) (by decide) ⟨rfl, N0, e0⟩
theorem d20_0 : decode jdk_29_method_65_code 0 = .ok (.iload_n 0, 1) := by decide +kernel
theorem d20_1 : decode jdk_29_method_65_code 1 = .ok (.iload_n 1, 1) := by decide +kernel
theorem d20_2 : decode jdk_29_method_65_code 2 = .ok (.if_icmp .lt 7, 3) := by decide +kernel
theorem d20_5 : decode jdk_29_method_65_code 5 = .ok (.iload_n 0, 1) := by decide +kernel
theorem d20_6 : decode jdk_29_method_65_code 6 = .ok (.goto 4, 3) := by decide +kernel
theorem d20_10 : decode jdk_29_method_65_code 10 = .ok (.ireturn, 1) := by decide +kernel
theorem ef_2 (m : MethodId) (x0 : Int32) (x1 : Int32) : entryFrame m #[(.int x0), (.int x1)] 2 = mkF m 0 #[.val (.int x0), .val (.int x1)] [] := by first | (simp [entryFrame, mkF, argsToLocals, Value.category]; done) | rfl
set_option maxRecDepth 65536 in
set_option maxHeartbeats 40000000 in
theorem rmMx (l : Launch) (Z : State) (a0 : Array Value) (hw : ∀ d ∈ tables_1, d.before a0 Z = true)  (h0 : Heap) (n0 : Nat) (Z0 : n0 ≤ h0.size) :
    Pays l Z (⟨"java/lang/Math", "max", "(II)I"⟩ : MethodName) jdk_29_method_65_code 2 (some .int) [] ({ frames := 0, cells := 0, slots := 0, locals := 0 } : Room) #[(.int (0 : Int32)), (.int (0 : Int32))] h0 (fun v h L => v = some (.int (0 : Int32)) ∧ Fr n0 L ∧ h = h0) := by
  refine Pays.walk (by decide +kernel) (fun m => ef_2 m (0 : Int32) (0 : Int32) ) ?_
  intro p e s m below meth c T0 X0 hx hby hml hown hnm hZ e0 hret hlk
  have N0 := Fr.nil n0
  refine Goes.on (T' := T0) (g' := (mkF m 10 #[.val (.int (0 : Int32)), .val (.int (0 : Int32))] [(.int (0 : Int32))])) (fun _ k => XS.iloadN X0.here hx rfl (hb hby d20_0) rfl (XS.iloadN X0.here hx rfl (hb hby d20_1) rfl (XS.icmpNo X0.here hx rfl (hb hby d20_2) rfl (XT.ii_lt_f (by decide)) (XS.iloadN X0.here hx rfl (hb hby d20_5) rfl (XS.goto X0.here hx rfl (pc0 := 6) (pc' := 10) rfl (hb hby d20_6) (by decide) (by decide) k))))) ?_
  exact Goes.retI X0 hx hlk hret (hb hby d20_10) (by decide) (by decide) ⟨rfl, N0, e0⟩
theorem d21_0 : decode jdk_29_method_69_code 0 = .ok (.iload_n 0, 1) := by decide +kernel
theorem d21_1 : decode jdk_29_method_69_code 1 = .ok (.iload_n 1, 1) := by decide +kernel
theorem d21_2 : decode jdk_29_method_69_code 2 = .ok (.if_icmp .gt 7, 3) := by decide +kernel
theorem d21_5 : decode jdk_29_method_69_code 5 = .ok (.iload_n 0, 1) := by decide +kernel
theorem d21_6 : decode jdk_29_method_69_code 6 = .ok (.goto 4, 3) := by decide +kernel
theorem d21_10 : decode jdk_29_method_69_code 10 = .ok (.ireturn, 1) := by decide +kernel
set_option maxRecDepth 65536 in
set_option maxHeartbeats 40000000 in
theorem rmMn1 (l : Launch) (Z : State) (a0 : Array Value) (hw : ∀ d ∈ tables_1, d.before a0 Z = true)  (h0 : Heap) (n0 : Nat) (Z0 : n0 ≤ h0.size) :
    Pays l Z (⟨"java/lang/Math", "min", "(II)I"⟩ : MethodName) jdk_29_method_69_code 2 (some .int) [] ({ frames := 0, cells := 0, slots := 0, locals := 0 } : Room) #[(.int (1 : Int32)), (.int (1 : Int32))] h0 (fun v h L => v = some (.int (1 : Int32)) ∧ Fr n0 L ∧ h = h0) := by
  refine Pays.walk (by decide +kernel) (fun m => ef_2 m (1 : Int32) (1 : Int32) ) ?_
  intro p e s m below meth c T0 X0 hx hby hml hown hnm hZ e0 hret hlk
  have N0 := Fr.nil n0
  refine Goes.on (T' := T0) (g' := (mkF m 10 #[.val (.int (1 : Int32)), .val (.int (1 : Int32))] [(.int (1 : Int32))])) (fun _ k => XS.iloadN X0.here hx rfl (hb hby d21_0) rfl (XS.iloadN X0.here hx rfl (hb hby d21_1) rfl (XS.icmpNo X0.here hx rfl (hb hby d21_2) rfl (XT.ii_gt_f (by decide)) (XS.iloadN X0.here hx rfl (hb hby d21_5) rfl (XS.goto X0.here hx rfl (pc0 := 6) (pc' := 10) rfl (hb hby d21_6) (by decide) (by decide) k))))) ?_
  exact Goes.retI X0 hx hlk hret (hb hby d21_10) (by decide) (by decide) ⟨rfl, N0, e0⟩
theorem d22_0 : decode jdk_43_method_23_code 0 = .ok (.iload_n 1, 1) := by decide +kernel
theorem d22_1 : decode jdk_43_method_23_code 1 = .ok (.i2b, 1) := by decide +kernel
theorem d22_2 : decode jdk_43_method_23_code 2 = .ok (.istore 4, 2) := by decide +kernel
theorem d22_4 : decode jdk_43_method_23_code 4 = .ok (.iload_n 2, 1) := by decide +kernel
theorem d22_5 : decode jdk_43_method_23_code 5 = .ok (.istore 5, 2) := by decide +kernel
theorem d22_7 : decode jdk_43_method_23_code 7 = .ok (.iload 5, 2) := by decide +kernel
theorem d22_9 : decode jdk_43_method_23_code 9 = .ok (.iload_n 3, 1) := by decide +kernel
theorem d22_10 : decode jdk_43_method_23_code 10 = .ok (.if_icmp .ge 21, 3) := by decide +kernel
theorem d22_13 : decode jdk_43_method_23_code 13 = .ok (.aload_n 0, 1) := by decide +kernel
theorem d22_14 : decode jdk_43_method_23_code 14 = .ok (.iload 5, 2) := by decide +kernel
theorem d22_16 : decode jdk_43_method_23_code 16 = .ok (.baload, 1) := by decide +kernel
theorem d22_17 : decode jdk_43_method_23_code 17 = .ok (.iload 4, 2) := by decide +kernel
theorem d22_19 : decode jdk_43_method_23_code 19 = .ok (.if_icmp .ne 6, 3) := by decide +kernel
theorem d22_25 : decode jdk_43_method_23_code 25 = .ok (.iinc 5 1, 3) := by decide +kernel
theorem d22_28 : decode jdk_43_method_23_code 28 = .ok (.goto (-21), 3) := by decide +kernel
theorem d22_31 : decode jdk_43_method_23_code 31 = .ok (.iconst (-1), 1) := by decide +kernel
theorem d22_32 : decode jdk_43_method_23_code 32 = .ok (.ireturn, 1) := by decide +kernel
theorem ef_3 (m : MethodId) (x0 : Addr) (x1 : Int32) (x2 : Int32) (x3 : Int32) : entryFrame m #[(.ref x0), (.int x1), (.int x2), (.int x3)] 6 = mkF m 0 #[.val (.ref x0), .val (.int x1), .val (.int x2), .val (.int x3), .unset, .unset] [] := by first | (simp [entryFrame, mkF, argsToLocals, Value.category]; done) | rfl
set_option maxRecDepth 65536 in
set_option maxHeartbeats 40000000 in
theorem rmIc47_1 (l : Launch) (Z : State) (a0 : Array Value) (hw : ∀ d ∈ tables_1, d.before a0 Z = true) (ya : Addr) (u0 : Int32)  (h0 : Heap) (n0 : Nat) (Z0 : n0 ≤ h0.size) (BA : Arf Z h0 ya .byte Value.int 1 (fun i => ([u0] : List Int32).getD i 0)) (g0 : ¬ u0 = (47 : Int32).toInt8.toInt32) :
    Pays l Z (⟨"java/lang/StringLatin1", "indexOfChar", "([BIII)I"⟩ : MethodName) jdk_43_method_23_code 6 (some .int) [] ({ frames := 0, cells := 0, slots := 0, locals := 0 } : Room) #[(.ref ya), (.int (47 : Int32)), (.int (0 : Int32)), (.int (1 : Int32))] h0 (fun v h L => v = some (.int (-1 : Int32)) ∧ Fr n0 L ∧ h = h0) := by
  refine Pays.walk (plainFor_of_name pn_2) (fun m => ef_3 m ya (47 : Int32) (0 : Int32) (1 : Int32) ) ?_
  intro p e s m below meth c T0 X0 hx hby hml hown hnm hZ e0 hret hlk
  have N0 := Fr.nil n0
  refine Goes.on (T' := T0) (g' := (mkF m 19 #[.val (.ref ya), .val (.int (47 : Int32)), .val (.int (0 : Int32)), .val (.int (1 : Int32)), .val (.int ((47 : Int32).toInt8.toInt32)), .val (.int (0 : Int32))] [(.int ((47 : Int32).toInt8.toInt32)), (.int u0)])) (fun _ k => XS.iloadN X0.here hx rfl (hb hby d22_0) rfl (XS.i2b X0.here hx rfl (hb hby d22_1) rfl (XS.istore X0.here hx rfl (hb hby d22_2) rfl (l' := #[.val (.ref ya), .val (.int (47 : Int32)), .val (.int (0 : Int32)), .val (.int (1 : Int32)), .val (.int ((47 : Int32).toInt8.toInt32)), .unset]) rfl (XS.iloadN X0.here hx rfl (hb hby d22_4) rfl (XS.istore X0.here hx rfl (hb hby d22_5) rfl (l' := #[.val (.ref ya), .val (.int (47 : Int32)), .val (.int (0 : Int32)), .val (.int (1 : Int32)), .val (.int ((47 : Int32).toInt8.toInt32)), .val (.int (0 : Int32))]) rfl (XS.iload X0.here hx rfl (hb hby d22_7) rfl (XS.iloadN X0.here hx rfl (hb hby d22_9) rfl (XS.icmpNo X0.here hx rfl (hb hby d22_10) rfl (XT.ii_ge_f (by decide)) (XS.aloadN X0.here hx rfl (hb hby d22_13) rfl rfl (XS.iload X0.here hx rfl (hb hby d22_14) rfl (ldYm X0 hx hZ e0 BA (by decide) (hb hby d22_16) (XS.iload X0.here hx rfl (hb hby d22_17) rfl k)))))))))))) ?_
  refine Goes.on (T' := T0) (g' := (mkF m 32 #[.val (.ref ya), .val (.int (47 : Int32)), .val (.int (0 : Int32)), .val (.int (1 : Int32)), .val (.int ((47 : Int32).toInt8.toInt32)), .val (.int (1 : Int32))] [(.int (-1 : Int32))])) (fun _ k => XS.icmpYes X0.here hx rfl (pc0 := 19) (pc' := 25) rfl (hb hby d22_19) rfl (XT.ii_ne_t g0) (by decide) (by decide) (XT.iincV X0.here hx rfl (1 : Int32) (hb hby d22_25) (by decide) rfl (l' := #[.val (.ref ya), .val (.int (47 : Int32)), .val (.int (0 : Int32)), .val (.int (1 : Int32)), .val (.int ((47 : Int32).toInt8.toInt32)), .val (.int (1 : Int32))]) rfl (XS.goto X0.here hx rfl (pc0 := 28) (pc' := 7) rfl (hb hby d22_28) (by decide) (by decide) (XS.iload X0.here hx rfl (hb hby d22_7) rfl (XS.iloadN X0.here hx rfl (hb hby d22_9) rfl (XS.icmpYes X0.here hx rfl (pc0 := 10) (pc' := 31) rfl (hb hby d22_10) rfl (XT.ii_ge_t (by decide)) (by decide) (by decide) (XS.iconst X0.here hx rfl (hb hby d22_31) k))))))) ?_
  exact Goes.retI X0 hx hlk hret (hb hby d22_32) (by decide) (by decide) ⟨rfl, N0, e0⟩
theorem d18_0 : decode jdk_43_method_22_code 0 = .ok (.iload_n 1, 1) := by decide +kernel
theorem pd_1 : parseMethodDescriptor "(I)Z" = some ⟨[.int], some .boolean⟩ := by decide +kernel
theorem d18_1 : decode jdk_43_method_22_code 1 = .ok (.invokestatic 88, 3) := by decide +kernel
theorem d18_4 : decode jdk_43_method_22_code 4 = .ok (.ifCond .ne 5, 3) := by decide +kernel
theorem d18_9 : decode jdk_43_method_22_code 9 = .ok (.iload_n 2, 1) := by decide +kernel
theorem d18_10 : decode jdk_43_method_22_code 10 = .ok (.iconst 0, 1) := by decide +kernel
theorem pd_2 : parseMethodDescriptor "(II)I" = some ⟨[.int, .int], some .int⟩ := by decide +kernel
theorem d18_11 : decode jdk_43_method_22_code 11 = .ok (.invokestatic 92, 3) := by decide +kernel
theorem d18_14 : decode jdk_43_method_22_code 14 = .ok (.istore_n 2, 1) := by decide +kernel
theorem d18_15 : decode jdk_43_method_22_code 15 = .ok (.iload_n 3, 1) := by decide +kernel
theorem d18_16 : decode jdk_43_method_22_code 16 = .ok (.aload_n 0, 1) := by decide +kernel
theorem d18_17 : decode jdk_43_method_22_code 17 = .ok (.arraylength, 1) := by decide +kernel
theorem d18_18 : decode jdk_43_method_22_code 18 = .ok (.invokestatic 38, 3) := by decide +kernel
theorem d18_21 : decode jdk_43_method_22_code 21 = .ok (.istore_n 3, 1) := by decide +kernel
theorem d18_22 : decode jdk_43_method_22_code 22 = .ok (.iload_n 2, 1) := by decide +kernel
theorem d18_23 : decode jdk_43_method_22_code 23 = .ok (.iload_n 3, 1) := by decide +kernel
theorem d18_24 : decode jdk_43_method_22_code 24 = .ok (.if_icmp .lt 5, 3) := by decide +kernel
theorem d18_29 : decode jdk_43_method_22_code 29 = .ok (.aload_n 0, 1) := by decide +kernel
theorem d18_30 : decode jdk_43_method_22_code 30 = .ok (.iload_n 1, 1) := by decide +kernel
theorem d18_31 : decode jdk_43_method_22_code 31 = .ok (.iload_n 2, 1) := by decide +kernel
theorem d18_32 : decode jdk_43_method_22_code 32 = .ok (.iload_n 3, 1) := by decide +kernel
theorem pd_3 : parseMethodDescriptor "([BIII)I" = some ⟨[(.array .byte), .int, .int, .int], some .int⟩ := by decide +kernel
theorem d18_33 : decode jdk_43_method_22_code 33 = .ok (.invokestatic 95, 3) := by decide +kernel
theorem d18_36 : decode jdk_43_method_22_code 36 = .ok (.ireturn, 1) := by decide +kernel
theorem ef_4 (m : MethodId) (x0 : Addr) (x1 : Int32) (x2 : Int32) (x3 : Int32) : entryFrame m #[(.ref x0), (.int x1), (.int x2), (.int x3)] 4 = mkF m 0 #[.val (.ref x0), .val (.int x1), .val (.int x2), .val (.int x3)] [] := by first | (simp [entryFrame, mkF, argsToLocals, Value.category]; done) | rfl
set_option maxRecDepth 65536 in
set_option maxHeartbeats 40000000 in
theorem rmIl247_1 (l : Launch) (Z : State) (a0 : Array Value) (hw : ∀ d ∈ tables_1, d.before a0 Z = true) (ya : Addr) (u0 : Int32)  (h0 : Heap) (n0 : Nat) (Z0 : n0 ≤ h0.size) (BA : Arf Z h0 ya .byte Value.int 1 (fun i => ([u0] : List Int32).getD i 0)) (g0 : ¬ u0 = (47 : Int32).toInt8.toInt32) :
    Pays l Z (⟨"java/lang/StringLatin1", "indexOf", "([BIII)I"⟩ : MethodName) jdk_43_method_22_code 4 (some .int) [] ({ frames := 1, cells := 0, slots := 0, locals := 17 } : Room) #[(.ref ya), (.int (47 : Int32)), (.int (0 : Int32)), (.int (1 : Int32))] h0 (fun v h L => v = some (.int (-1 : Int32)) ∧ Fr n0 L ∧ h = h0) := by
  refine Pays.walk (plainFor_of_name pn_2) (fun m => ef_4 m ya (47 : Int32) (0 : Int32) (1 : Int32) ) ?_
  intro p e s m below meth c T0 X0 hx hby hml hown hnm hZ e0 hret hlk
  have N0 := Fr.nil n0
  refine Goes.on (T' := T0) (g' := (mkF m 1 #[.val (.ref ya), .val (.int (47 : Int32)), .val (.int (0 : Int32)), .val (.int (1 : Int32))] [(.int (47 : Int32))])) (fun _ k => XS.iloadN X0.here hx rfl (hb hby d18_0) rfl k) ?_
  refine Goes.callS X0 hx hZ 0 hown (own_w hw 91 rfl) (own_w hw 92 rfl) (own_w hw 60 rfl) (own_w hw 93 rfl) (by decide) e0 (rmCE47 l Z a0 hw h0 n0 Z0) (by decide) (by decide) (by decide) (by decide) rfl (by rw [hml]; rfl) (argsL := [(.int (47 : Int32))]) (rest := []) rfl (lenOf pd_1 rfl) rfl (by show 2 * 0 + _ ≤ _; exact Nat.le_of_eq rfl) (hb hby d18_1) ?_
  intro v1 T1 L1 X1 hQ1
  obtain ⟨rfl, N1q, e1⟩ := hQ1
  have N1 := Fr.app N0 N1q
  show Goes p e below _ T1 (mkF m 4 #[.val (.ref ya), .val (.int (47 : Int32)), .val (.int (0 : Int32)), .val (.int (1 : Int32))] [(.int (1 : Int32))])
  refine Goes.on (T' := T1) (g' := (mkF m 11 #[.val (.ref ya), .val (.int (47 : Int32)), .val (.int (0 : Int32)), .val (.int (1 : Int32))] [(.int (0 : Int32)), (.int (0 : Int32))])) (fun _ k => XS.ifYes X1.here hx rfl (pc0 := 4) (pc' := 9) rfl (hb hby d18_4) rfl (XT.i0_ne_t (by decide)) (by decide) (by decide) (XS.iloadN X1.here hx rfl (hb hby d18_9) rfl (XS.iconst X1.here hx rfl (hb hby d18_10) k))) ?_
  refine Goes.callS X1 hx hZ 0 hown (own_w hw 94 rfl) (own_w hw 95 rfl) (own_w hw 96 rfl) (own_w hw 97 rfl) (by decide) e1 (rmMx l Z a0 hw h0 n0 Z0) (by decide) (by decide) (by decide) (by decide) rfl (by rw [hml]; rfl) (argsL := [(.int (0 : Int32)), (.int (0 : Int32))]) (rest := []) rfl (lenOf pd_2 rfl) rfl (by show 2 * 0 + _ ≤ _; exact Nat.le_of_eq rfl) (hb hby d18_11) ?_
  intro v2 T2 L2 X2 hQ2
  obtain ⟨rfl, N2q, e2⟩ := hQ2
  have N2 := Fr.app N1 N2q
  show Goes p e below _ T2 (mkF m 14 #[.val (.ref ya), .val (.int (47 : Int32)), .val (.int (0 : Int32)), .val (.int (1 : Int32))] [(.int (0 : Int32))])
  refine Goes.on (T' := T2) (g' := (mkF m 18 #[.val (.ref ya), .val (.int (47 : Int32)), .val (.int (0 : Int32)), .val (.int (1 : Int32))] [(.int (1 : Int32)), (.int (1 : Int32))])) (fun _ k => XS.istoreN X2.here hx rfl (hb hby d18_14) rfl (l' := #[.val (.ref ya), .val (.int (47 : Int32)), .val (.int (0 : Int32)), .val (.int (1 : Int32))]) rfl (XS.iloadN X2.here hx rfl (hb hby d18_15) rfl (XS.aloadN X2.here hx rfl (hb hby d18_16) rfl rfl (aLenm X2 hx hZ e2 BA (hb hby d18_17) k)))) ?_
  refine Goes.callS X2 hx hZ 0 hown (own_w hw 98 rfl) (own_w hw 99 rfl) (own_w hw 96 rfl) (own_w hw 100 rfl) (by decide) e2 (rmMn1 l Z a0 hw h0 n0 Z0) (by decide) (by decide) (by decide) (by decide) rfl (by rw [hml]; rfl) (argsL := [(.int (1 : Int32)), (.int (1 : Int32))]) (rest := []) rfl (lenOf pd_2 rfl) rfl (by show 2 * 0 + _ ≤ _; exact Nat.le_of_eq rfl) (hb hby d18_18) ?_
  intro v4 T4 L4 X4 hQ4
  obtain ⟨rfl, N4q, e4⟩ := hQ4
  have N4 := Fr.app N2 N4q
  show Goes p e below _ T4 (mkF m 21 #[.val (.ref ya), .val (.int (47 : Int32)), .val (.int (0 : Int32)), .val (.int (1 : Int32))] [(.int (1 : Int32))])
  refine Goes.on (T' := T4) (g' := (mkF m 33 #[.val (.ref ya), .val (.int (47 : Int32)), .val (.int (0 : Int32)), .val (.int (1 : Int32))] [(.int (1 : Int32)), (.int (0 : Int32)), (.int (47 : Int32)), (.ref ya)])) (fun _ k => XS.istoreN X4.here hx rfl (hb hby d18_21) rfl (l' := #[.val (.ref ya), .val (.int (47 : Int32)), .val (.int (0 : Int32)), .val (.int (1 : Int32))]) rfl (XS.iloadN X4.here hx rfl (hb hby d18_22) rfl (XS.iloadN X4.here hx rfl (hb hby d18_23) rfl (XS.icmpYes X4.here hx rfl (pc0 := 24) (pc' := 29) rfl (hb hby d18_24) rfl (XT.ii_lt_t (by decide)) (by decide) (by decide) (XS.aloadN X4.here hx rfl (hb hby d18_29) rfl rfl (XS.iloadN X4.here hx rfl (hb hby d18_30) rfl (XS.iloadN X4.here hx rfl (hb hby d18_31) rfl (XS.iloadN X4.here hx rfl (hb hby d18_32) rfl k)))))))) ?_
  refine Goes.callS X4 hx hZ 0 hown (own_w hw 101 rfl) (own_w hw 102 rfl) (own_w hw 60 rfl) (own_w hw 103 rfl) (by decide) e4 (rmIc47_1 l Z a0 hw ya u0 h0 n0 Z0 BA g0) (by decide) (by decide) (by decide) (by decide) rfl (by rw [hml]; rfl) (argsL := [(.ref ya), (.int (47 : Int32)), (.int (0 : Int32)), (.int (1 : Int32))]) (rest := []) rfl (lenOf pd_3 rfl) rfl (by show 2 * 0 + _ ≤ _; exact Nat.le_of_eq rfl) (hb hby d18_33) ?_
  intro v5 T5 L5 X5 hQ5
  obtain ⟨rfl, N5q, e5⟩ := hQ5
  have N5 := Fr.app N4 N5q
  show Goes p e below _ T5 (mkF m 36 #[.val (.ref ya), .val (.int (47 : Int32)), .val (.int (0 : Int32)), .val (.int (1 : Int32))] [(.int (-1 : Int32))])
  exact Goes.retI X5 hx hlk hret (hb hby d18_36) (by decide) (by decide) ⟨rfl, N5, e5⟩
theorem d14_0 : decode jdk_42_method_80_code 0 = .ok (.aload_n 0, 1) := by decide +kernel
theorem pd_4 : parseMethodDescriptor "()Z" = some ⟨[], some .boolean⟩ := by decide +kernel
theorem d14_1 : decode jdk_42_method_80_code 1 = .ok (.invokevirtual 492, 3) := by decide +kernel
theorem d14_4 : decode jdk_42_method_80_code 4 = .ok (.ifCond .eq 19, 3) := by decide +kernel
theorem d14_7 : decode jdk_42_method_80_code 7 = .ok (.aload_n 0, 1) := by decide +kernel
theorem d14_8 : decode jdk_42_method_80_code 8 = .ok (.getfield 9, 3) := by decide +kernel
theorem d14_11 : decode jdk_42_method_80_code 11 = .ok (.iload_n 1, 1) := by decide +kernel
theorem d14_12 : decode jdk_42_method_80_code 12 = .ok (.iload_n 2, 1) := by decide +kernel
theorem d14_13 : decode jdk_42_method_80_code 13 = .ok (.aload_n 0, 1) := by decide +kernel
theorem pd_5 : parseMethodDescriptor "()I" = some ⟨[], some .int⟩ := by decide +kernel
theorem d14_14 : decode jdk_42_method_80_code 14 = .ok (.invokevirtual 505, 3) := by decide +kernel
theorem d14_17 : decode jdk_42_method_80_code 17 = .ok (.invokestatic 637, 3) := by decide +kernel
theorem d14_20 : decode jdk_42_method_80_code 20 = .ok (.goto 16, 3) := by decide +kernel
theorem d14_36 : decode jdk_42_method_80_code 36 = .ok (.ireturn, 1) := by decide +kernel
theorem ef_5 (m : MethodId) (x0 : Addr) (x1 : Int32) (x2 : Int32) : entryFrame m #[(.ref x0), (.int x1), (.int x2)] 3 = mkF m 0 #[.val (.ref x0), .val (.int x1), .val (.int x2)] [] := by first | (simp [entryFrame, mkF, argsToLocals, Value.category]; done) | rfl
set_option maxRecDepth 65536 in
set_option maxHeartbeats 40000000 in
theorem rmI247_1 (l : Launch) (Z : State) (a0 : Array Value) (hw : ∀ d ∈ tables_1, d.before a0 Z = true) (a : Addr) (u0 : Int32)  (h0 : Heap) (n0 : Nat) (Z0 : n0 ≤ h0.size) (O0 : Old Z n0 h0) (cs : Int32) (SC : Sta Z Z.heap "java/lang/String" "COMPACT_STRINGS" "Z" (.int cs)) (hcs : ¬ cs = (0 : Int32)) (ya : Addr) (ka : ClassId) (PA : Str Z h0 a ya ka (Int32.ofNat 1) [Value.int u0]) (g0 : ¬ u0 = (47 : Int32).toInt8.toInt32) :
    Pays l Z (⟨"java/lang/String", "indexOf", "(II)I"⟩ : MethodName) jdk_42_method_80_code 3 (some .int) [] ({ frames := 2, cells := 0, slots := 0, locals := 32 } : Room) #[(.ref a), (.int (47 : Int32)), (.int (0 : Int32))] h0 (fun v h L => v = some (.int (-1 : Int32)) ∧ Fr n0 L ∧ h = h0) := by
  refine Pays.walk (plainFor_of_name pn_1) (fun m => ef_5 m a (47 : Int32) (0 : Int32) ) ?_
  intro p e s m below meth c T0 X0 hx hby hml hown hnm hZ e0 hret hlk
  have N0 := Fr.nil n0
  have BA : Arf Z h0 ya .byte Value.int 1 (fun i => ([u0] : List Int32).getD i 0) := Arv.arf PA.2.2.2 (by decide) (own_lt1 rfl)
  refine Goes.on (T' := T0) (g' := (mkF m 1 #[.val (.ref a), .val (.int (47 : Int32)), .val (.int (0 : Int32))] [(.ref a)])) (fun _ k => XS.aloadN X0.here hx rfl (hb hby d14_0) rfl rfl k) ?_
  refine Goes.callV X0 hx hZ 0 hown (own_w hw 73 rfl) (own_w hw 74 rfl) (notFace_of_selects (args := #[]) (mvT hZ (own_w hw 76 rfl))) (own_w hw 76 rfl) (own_w hw 75 rfl) (own_w hw 9 rfl) (own_w hw 77 rfl) (by decide) e0 PA.1 (rmIl_1 l Z a0 hw a u0 h0 n0 Z0 O0 cs SC hcs ya ka PA) (by decide) (by decide) (by decide) (by decide) rfl (by rw [hml]; rfl) (argsL := []) (rest := []) rfl (lenOf pd_4 rfl) rfl (by show 2 * 0 + _ ≤ _; exact Nat.le_of_eq rfl) (hb hby d14_1) ?_
  intro v1 T1 L1 X1 hQ1
  obtain ⟨rfl, N1q, e1⟩ := hQ1
  have N1 := Fr.app N0 N1q
  show Goes p e below _ T1 (mkF m 4 #[.val (.ref a), .val (.int (47 : Int32)), .val (.int (0 : Int32))] [(.int (1 : Int32))])
  refine Goes.on (T' := T1) (g' := (mkF m 8 #[.val (.ref a), .val (.int (47 : Int32)), .val (.int (0 : Int32))] [(.ref a)])) (fun _ k => XS.ifNo X1.here hx rfl (hb hby d14_4) rfl (XT.i0_eq_f (by decide)) (XS.aloadN X1.here hx rfl (hb hby d14_7) rfl rfl k)) ?_
  obtain ⟨T2, X2, e2, st2⟩ := getF X1 hx hZ hown (host := "") (Or.inl (own_w hw 35 rfl)) Via.refl e1 PA.2.2.1 (g := (mkF m 8 #[.val (.ref a), .val (.int (47 : Int32)), .val (.int (0 : Int32))] [(.ref a)])) rfl rfl (hb hby d14_8)
  refine Goes.on (T' := T2) (g' := (mkF m 14 #[.val (.ref a), .val (.int (47 : Int32)), .val (.int (0 : Int32))] [(.ref a), (.int (0 : Int32)), (.int (47 : Int32)), (.ref ya)])) (fun _ k => st2 _ (XS.iloadN X2.here hx rfl (hb hby d14_11) rfl (XS.iloadN X2.here hx rfl (hb hby d14_12) rfl (XS.aloadN X2.here hx rfl (hb hby d14_13) rfl rfl k)))) ?_
  refine Goes.callV X2 hx hZ 3 hown (own_w hw 78 rfl) (own_w hw 79 rfl) (notFace_of_selects (args := #[]) (mvT hZ (own_w hw 81 rfl))) (own_w hw 81 rfl) (own_w hw 80 rfl) (own_w hw 9 rfl) (own_w hw 82 rfl) (by decide) e2 PA.1 (rmLn_1 l Z a0 hw a u0 h0 n0 Z0 O0 cs SC hcs ya ka PA) (by decide) (by decide) (by decide) (by decide) rfl (by rw [hml]; rfl) (argsL := []) (rest := [(.int (0 : Int32)), (.int (47 : Int32)), (.ref ya)]) rfl (lenOf pd_5 rfl) rfl (by show 2 * 0 + _ ≤ _; exact Nat.le_of_eq rfl) (hb hby d14_14) ?_
  intro v3 T3 L3 X3 hQ3
  obtain ⟨rfl, N3q, e3⟩ := hQ3
  have N3 := Fr.app N1 N3q
  show Goes p e below _ T3 (mkF m 17 #[.val (.ref a), .val (.int (47 : Int32)), .val (.int (0 : Int32))] [(.int (1 : Int32)), (.int (0 : Int32)), (.int (47 : Int32)), (.ref ya)])
  refine Goes.callS X3 hx hZ 0 hown (own_w hw 88 rfl) (own_w hw 89 rfl) (own_w hw 60 rfl) (own_w hw 90 rfl) (by decide) e3 (rmIl247_1 l Z a0 hw ya u0 h0 n0 Z0 BA g0) (by decide) (by decide) (by decide) (by decide) rfl (by rw [hml]; rfl) (argsL := [(.ref ya), (.int (47 : Int32)), (.int (0 : Int32)), (.int (1 : Int32))]) (rest := []) rfl (lenOf pd_3 rfl) rfl (by show 2 * 0 + _ ≤ _; exact Nat.le_of_eq rfl) (hb hby d14_17) ?_
  intro v4 T4 L4 X4 hQ4
  obtain ⟨rfl, N4q, e4⟩ := hQ4
  have N4 := Fr.app N3 N4q
  show Goes p e below _ T4 (mkF m 20 #[.val (.ref a), .val (.int (47 : Int32)), .val (.int (0 : Int32))] [(.int (-1 : Int32))])
  refine Goes.on (T' := T4) (g' := (mkF m 36 #[.val (.ref a), .val (.int (47 : Int32)), .val (.int (0 : Int32))] [(.int (-1 : Int32))])) (fun _ k => XS.goto X4.here hx rfl (pc0 := 20) (pc' := 36) rfl (hb hby d14_20) (by decide) (by decide) k) ?_
  exact Goes.retI X4 hx hlk hret (hb hby d14_36) (by decide) (by decide) ⟨rfl, N4, e4⟩
theorem d13_0 : decode jdk_42_method_79_code 0 = .ok (.aload_n 0, 1) := by decide +kernel
theorem d13_1 : decode jdk_42_method_79_code 1 = .ok (.iload_n 1, 1) := by decide +kernel
theorem d13_2 : decode jdk_42_method_79_code 2 = .ok (.iconst 0, 1) := by decide +kernel
theorem d13_3 : decode jdk_42_method_79_code 3 = .ok (.invokevirtual 633, 3) := by decide +kernel
theorem d13_6 : decode jdk_42_method_79_code 6 = .ok (.ireturn, 1) := by decide +kernel
theorem ef_6 (m : MethodId) (x0 : Addr) (x1 : Int32) : entryFrame m #[(.ref x0), (.int x1)] 2 = mkF m 0 #[.val (.ref x0), .val (.int x1)] [] := by first | (simp [entryFrame, mkF, argsToLocals, Value.category]; done) | rfl
set_option maxRecDepth 65536 in
set_option maxHeartbeats 40000000 in
theorem rmIx47_1 (l : Launch) (Z : State) (a0 : Array Value) (hw : ∀ d ∈ tables_1, d.before a0 Z = true) (a : Addr) (u0 : Int32)  (h0 : Heap) (n0 : Nat) (Z0 : n0 ≤ h0.size) (O0 : Old Z n0 h0) (cs : Int32) (SC : Sta Z Z.heap "java/lang/String" "COMPACT_STRINGS" "Z" (.int cs)) (hcs : ¬ cs = (0 : Int32)) (ya : Addr) (ka : ClassId) (PA : Str Z h0 a ya ka (Int32.ofNat 1) [Value.int u0]) (g0 : ¬ u0 = (47 : Int32).toInt8.toInt32) :
    Pays l Z (⟨"java/lang/String", "indexOf", "(I)I"⟩ : MethodName) jdk_42_method_79_code 2 (some .int) [] ({ frames := 3, cells := 0, slots := 0, locals := 46 } : Room) #[(.ref a), (.int (47 : Int32))] h0 (fun v h L => v = some (.int (-1 : Int32)) ∧ Fr n0 L ∧ h = h0) := by
  refine Pays.walk (plainFor_of_name pn_1) (fun m => ef_6 m a (47 : Int32) ) ?_
  intro p e s m below meth c T0 X0 hx hby hml hown hnm hZ e0 hret hlk
  have N0 := Fr.nil n0
  have BA : Arf Z h0 ya .byte Value.int 1 (fun i => ([u0] : List Int32).getD i 0) := Arv.arf PA.2.2.2 (by decide) (own_lt1 rfl)
  refine Goes.on (T' := T0) (g' := (mkF m 3 #[.val (.ref a), .val (.int (47 : Int32))] [(.int (0 : Int32)), (.int (47 : Int32)), (.ref a)])) (fun _ k => XS.aloadN X0.here hx rfl (hb hby d13_0) rfl rfl (XS.iloadN X0.here hx rfl (hb hby d13_1) rfl (XS.iconst X0.here hx rfl (hb hby d13_2) k))) ?_
  refine Goes.callV X0 hx hZ 0 hown (own_w hw 68 rfl) (own_w hw 69 rfl) (notFace_of_selects (args := #[]) (mvT hZ (own_w hw 71 rfl))) (own_w hw 71 rfl) (own_w hw 70 rfl) (own_w hw 9 rfl) (own_w hw 72 rfl) (by decide) e0 PA.1 (rmI247_1 l Z a0 hw a u0 h0 n0 Z0 O0 cs SC hcs ya ka PA g0) (by decide) (by decide) (by decide) (by decide) rfl (by rw [hml]; rfl) (argsL := [(.int (47 : Int32)), (.int (0 : Int32))]) (rest := []) rfl (lenOf pd_2 rfl) rfl (by show 2 * 0 + _ ≤ _; exact Nat.le_of_eq rfl) (hb hby d13_3) ?_
  intro v1 T1 L1 X1 hQ1
  obtain ⟨rfl, N1q, e1⟩ := hQ1
  have N1 := Fr.app N0 N1q
  show Goes p e below _ T1 (mkF m 6 #[.val (.ref a), .val (.int (47 : Int32))] [(.int (-1 : Int32))])
  exact Goes.retI X1 hx hlk hret (hb hby d13_6) (by decide) (by decide) ⟨rfl, N1, e1⟩
set_option maxRecDepth 65536 in
set_option maxHeartbeats 40000000 in
theorem rmCE0 (l : Launch) (Z : State) (a0 : Array Value) (hw : ∀ d ∈ tables_1, d.before a0 Z = true)  (h0 : Heap) (n0 : Nat) (Z0 : n0 ≤ h0.size) :
    Pays l Z (⟨"java/lang/StringLatin1", "canEncode", "(I)Z"⟩ : MethodName) jdk_43_method_4_code 1 (some .boolean) [] ({ frames := 0, cells := 0, slots := 0, locals := 0 } : Room) #[(.int (0 : Int32))] h0 (fun v h L => v = some (.int (1 : Int32)) ∧ Fr n0 L ∧ h = h0) := by
  refine Pays.walk (plainFor_of_name pn_2) (fun m => ef_0 m (0 : Int32) ) ?_
  intro p e s m below meth c T0 X0 hx hby hml hown hnm hZ e0 hret hlk
  have N0 := Fr.nil n0
  refine Goes.on (T' := T0) (g' := (mkF m 16 #[.val (.int (0 : Int32))] [(.int (1 : Int32))])) (fun _ k => XS.iloadN X0.here hx rfl (hb hby d19_0) rfl (XS.ifNo X0.here hx rfl (hb hby d19_1) rfl (XT.i0_lt_f (by decide)) (XS.iloadN X0.here hx rfl (hb hby d19_4) rfl (XS.sipush X0.here hx rfl (hb hby d19_5) (XS.icmpNo X0.here hx rfl (hb hby d19_8) rfl (XT.ii_gt_f (by decide)) (XS.iconst X0.here hx rfl (hb hby d19_11) (XS.goto X0.here hx rfl (pc0 := 12) (pc' := 16) rfl (hb hby d19_12) (by decide) (by decide) k))))))) ?_
  exact Goes.retB X0 hx hlk hret (Or.inr rfl) (hb hby d19_16) (by decide) (by decide) ⟨rfl, N0, e0⟩
set_option maxRecDepth 65536 in
set_option maxHeartbeats 40000000 in
theorem rmIc0_1 (l : Launch) (Z : State) (a0 : Array Value) (hw : ∀ d ∈ tables_1, d.before a0 Z = true) (ya : Addr) (u0 : Int32)  (h0 : Heap) (n0 : Nat) (Z0 : n0 ≤ h0.size) (BA : Arf Z h0 ya .byte Value.int 1 (fun i => ([u0] : List Int32).getD i 0)) (g0 : ¬ u0 = (0 : Int32).toInt8.toInt32) :
    Pays l Z (⟨"java/lang/StringLatin1", "indexOfChar", "([BIII)I"⟩ : MethodName) jdk_43_method_23_code 6 (some .int) [] ({ frames := 0, cells := 0, slots := 0, locals := 0 } : Room) #[(.ref ya), (.int (0 : Int32)), (.int (0 : Int32)), (.int (1 : Int32))] h0 (fun v h L => v = some (.int (-1 : Int32)) ∧ Fr n0 L ∧ h = h0) := by
  refine Pays.walk (plainFor_of_name pn_2) (fun m => ef_3 m ya (0 : Int32) (0 : Int32) (1 : Int32) ) ?_
  intro p e s m below meth c T0 X0 hx hby hml hown hnm hZ e0 hret hlk
  have N0 := Fr.nil n0
  refine Goes.on (T' := T0) (g' := (mkF m 19 #[.val (.ref ya), .val (.int (0 : Int32)), .val (.int (0 : Int32)), .val (.int (1 : Int32)), .val (.int ((0 : Int32).toInt8.toInt32)), .val (.int (0 : Int32))] [(.int ((0 : Int32).toInt8.toInt32)), (.int u0)])) (fun _ k => XS.iloadN X0.here hx rfl (hb hby d22_0) rfl (XS.i2b X0.here hx rfl (hb hby d22_1) rfl (XS.istore X0.here hx rfl (hb hby d22_2) rfl (l' := #[.val (.ref ya), .val (.int (0 : Int32)), .val (.int (0 : Int32)), .val (.int (1 : Int32)), .val (.int ((0 : Int32).toInt8.toInt32)), .unset]) rfl (XS.iloadN X0.here hx rfl (hb hby d22_4) rfl (XS.istore X0.here hx rfl (hb hby d22_5) rfl (l' := #[.val (.ref ya), .val (.int (0 : Int32)), .val (.int (0 : Int32)), .val (.int (1 : Int32)), .val (.int ((0 : Int32).toInt8.toInt32)), .val (.int (0 : Int32))]) rfl (XS.iload X0.here hx rfl (hb hby d22_7) rfl (XS.iloadN X0.here hx rfl (hb hby d22_9) rfl (XS.icmpNo X0.here hx rfl (hb hby d22_10) rfl (XT.ii_ge_f (by decide)) (XS.aloadN X0.here hx rfl (hb hby d22_13) rfl rfl (XS.iload X0.here hx rfl (hb hby d22_14) rfl (ldYm X0 hx hZ e0 BA (by decide) (hb hby d22_16) (XS.iload X0.here hx rfl (hb hby d22_17) rfl k)))))))))))) ?_
  refine Goes.on (T' := T0) (g' := (mkF m 32 #[.val (.ref ya), .val (.int (0 : Int32)), .val (.int (0 : Int32)), .val (.int (1 : Int32)), .val (.int ((0 : Int32).toInt8.toInt32)), .val (.int (1 : Int32))] [(.int (-1 : Int32))])) (fun _ k => XS.icmpYes X0.here hx rfl (pc0 := 19) (pc' := 25) rfl (hb hby d22_19) rfl (XT.ii_ne_t g0) (by decide) (by decide) (XT.iincV X0.here hx rfl (1 : Int32) (hb hby d22_25) (by decide) rfl (l' := #[.val (.ref ya), .val (.int (0 : Int32)), .val (.int (0 : Int32)), .val (.int (1 : Int32)), .val (.int ((0 : Int32).toInt8.toInt32)), .val (.int (1 : Int32))]) rfl (XS.goto X0.here hx rfl (pc0 := 28) (pc' := 7) rfl (hb hby d22_28) (by decide) (by decide) (XS.iload X0.here hx rfl (hb hby d22_7) rfl (XS.iloadN X0.here hx rfl (hb hby d22_9) rfl (XS.icmpYes X0.here hx rfl (pc0 := 10) (pc' := 31) rfl (hb hby d22_10) rfl (XT.ii_ge_t (by decide)) (by decide) (by decide) (XS.iconst X0.here hx rfl (hb hby d22_31) k))))))) ?_
  exact Goes.retI X0 hx hlk hret (hb hby d22_32) (by decide) (by decide) ⟨rfl, N0, e0⟩
set_option maxRecDepth 65536 in
set_option maxHeartbeats 40000000 in
theorem rmIl20_1 (l : Launch) (Z : State) (a0 : Array Value) (hw : ∀ d ∈ tables_1, d.before a0 Z = true) (ya : Addr) (u0 : Int32)  (h0 : Heap) (n0 : Nat) (Z0 : n0 ≤ h0.size) (BA : Arf Z h0 ya .byte Value.int 1 (fun i => ([u0] : List Int32).getD i 0)) (g0 : ¬ u0 = (0 : Int32).toInt8.toInt32) :
    Pays l Z (⟨"java/lang/StringLatin1", "indexOf", "([BIII)I"⟩ : MethodName) jdk_43_method_22_code 4 (some .int) [] ({ frames := 1, cells := 0, slots := 0, locals := 17 } : Room) #[(.ref ya), (.int (0 : Int32)), (.int (0 : Int32)), (.int (1 : Int32))] h0 (fun v h L => v = some (.int (-1 : Int32)) ∧ Fr n0 L ∧ h = h0) := by
  refine Pays.walk (plainFor_of_name pn_2) (fun m => ef_4 m ya (0 : Int32) (0 : Int32) (1 : Int32) ) ?_
  intro p e s m below meth c T0 X0 hx hby hml hown hnm hZ e0 hret hlk
  have N0 := Fr.nil n0
  refine Goes.on (T' := T0) (g' := (mkF m 1 #[.val (.ref ya), .val (.int (0 : Int32)), .val (.int (0 : Int32)), .val (.int (1 : Int32))] [(.int (0 : Int32))])) (fun _ k => XS.iloadN X0.here hx rfl (hb hby d18_0) rfl k) ?_
  refine Goes.callS X0 hx hZ 0 hown (own_w hw 91 rfl) (own_w hw 92 rfl) (own_w hw 60 rfl) (own_w hw 93 rfl) (by decide) e0 (rmCE0 l Z a0 hw h0 n0 Z0) (by decide) (by decide) (by decide) (by decide) rfl (by rw [hml]; rfl) (argsL := [(.int (0 : Int32))]) (rest := []) rfl (lenOf pd_1 rfl) rfl (by show 2 * 0 + _ ≤ _; exact Nat.le_of_eq rfl) (hb hby d18_1) ?_
  intro v1 T1 L1 X1 hQ1
  obtain ⟨rfl, N1q, e1⟩ := hQ1
  have N1 := Fr.app N0 N1q
  show Goes p e below _ T1 (mkF m 4 #[.val (.ref ya), .val (.int (0 : Int32)), .val (.int (0 : Int32)), .val (.int (1 : Int32))] [(.int (1 : Int32))])
  refine Goes.on (T' := T1) (g' := (mkF m 11 #[.val (.ref ya), .val (.int (0 : Int32)), .val (.int (0 : Int32)), .val (.int (1 : Int32))] [(.int (0 : Int32)), (.int (0 : Int32))])) (fun _ k => XS.ifYes X1.here hx rfl (pc0 := 4) (pc' := 9) rfl (hb hby d18_4) rfl (XT.i0_ne_t (by decide)) (by decide) (by decide) (XS.iloadN X1.here hx rfl (hb hby d18_9) rfl (XS.iconst X1.here hx rfl (hb hby d18_10) k))) ?_
  refine Goes.callS X1 hx hZ 0 hown (own_w hw 94 rfl) (own_w hw 95 rfl) (own_w hw 96 rfl) (own_w hw 97 rfl) (by decide) e1 (rmMx l Z a0 hw h0 n0 Z0) (by decide) (by decide) (by decide) (by decide) rfl (by rw [hml]; rfl) (argsL := [(.int (0 : Int32)), (.int (0 : Int32))]) (rest := []) rfl (lenOf pd_2 rfl) rfl (by show 2 * 0 + _ ≤ _; exact Nat.le_of_eq rfl) (hb hby d18_11) ?_
  intro v2 T2 L2 X2 hQ2
  obtain ⟨rfl, N2q, e2⟩ := hQ2
  have N2 := Fr.app N1 N2q
  show Goes p e below _ T2 (mkF m 14 #[.val (.ref ya), .val (.int (0 : Int32)), .val (.int (0 : Int32)), .val (.int (1 : Int32))] [(.int (0 : Int32))])
  refine Goes.on (T' := T2) (g' := (mkF m 18 #[.val (.ref ya), .val (.int (0 : Int32)), .val (.int (0 : Int32)), .val (.int (1 : Int32))] [(.int (1 : Int32)), (.int (1 : Int32))])) (fun _ k => XS.istoreN X2.here hx rfl (hb hby d18_14) rfl (l' := #[.val (.ref ya), .val (.int (0 : Int32)), .val (.int (0 : Int32)), .val (.int (1 : Int32))]) rfl (XS.iloadN X2.here hx rfl (hb hby d18_15) rfl (XS.aloadN X2.here hx rfl (hb hby d18_16) rfl rfl (aLenm X2 hx hZ e2 BA (hb hby d18_17) k)))) ?_
  refine Goes.callS X2 hx hZ 0 hown (own_w hw 98 rfl) (own_w hw 99 rfl) (own_w hw 96 rfl) (own_w hw 100 rfl) (by decide) e2 (rmMn1 l Z a0 hw h0 n0 Z0) (by decide) (by decide) (by decide) (by decide) rfl (by rw [hml]; rfl) (argsL := [(.int (1 : Int32)), (.int (1 : Int32))]) (rest := []) rfl (lenOf pd_2 rfl) rfl (by show 2 * 0 + _ ≤ _; exact Nat.le_of_eq rfl) (hb hby d18_18) ?_
  intro v4 T4 L4 X4 hQ4
  obtain ⟨rfl, N4q, e4⟩ := hQ4
  have N4 := Fr.app N2 N4q
  show Goes p e below _ T4 (mkF m 21 #[.val (.ref ya), .val (.int (0 : Int32)), .val (.int (0 : Int32)), .val (.int (1 : Int32))] [(.int (1 : Int32))])
  refine Goes.on (T' := T4) (g' := (mkF m 33 #[.val (.ref ya), .val (.int (0 : Int32)), .val (.int (0 : Int32)), .val (.int (1 : Int32))] [(.int (1 : Int32)), (.int (0 : Int32)), (.int (0 : Int32)), (.ref ya)])) (fun _ k => XS.istoreN X4.here hx rfl (hb hby d18_21) rfl (l' := #[.val (.ref ya), .val (.int (0 : Int32)), .val (.int (0 : Int32)), .val (.int (1 : Int32))]) rfl (XS.iloadN X4.here hx rfl (hb hby d18_22) rfl (XS.iloadN X4.here hx rfl (hb hby d18_23) rfl (XS.icmpYes X4.here hx rfl (pc0 := 24) (pc' := 29) rfl (hb hby d18_24) rfl (XT.ii_lt_t (by decide)) (by decide) (by decide) (XS.aloadN X4.here hx rfl (hb hby d18_29) rfl rfl (XS.iloadN X4.here hx rfl (hb hby d18_30) rfl (XS.iloadN X4.here hx rfl (hb hby d18_31) rfl (XS.iloadN X4.here hx rfl (hb hby d18_32) rfl k)))))))) ?_
  refine Goes.callS X4 hx hZ 0 hown (own_w hw 101 rfl) (own_w hw 102 rfl) (own_w hw 60 rfl) (own_w hw 103 rfl) (by decide) e4 (rmIc0_1 l Z a0 hw ya u0 h0 n0 Z0 BA g0) (by decide) (by decide) (by decide) (by decide) rfl (by rw [hml]; rfl) (argsL := [(.ref ya), (.int (0 : Int32)), (.int (0 : Int32)), (.int (1 : Int32))]) (rest := []) rfl (lenOf pd_3 rfl) rfl (by show 2 * 0 + _ ≤ _; exact Nat.le_of_eq rfl) (hb hby d18_33) ?_
  intro v5 T5 L5 X5 hQ5
  obtain ⟨rfl, N5q, e5⟩ := hQ5
  have N5 := Fr.app N4 N5q
  show Goes p e below _ T5 (mkF m 36 #[.val (.ref ya), .val (.int (0 : Int32)), .val (.int (0 : Int32)), .val (.int (1 : Int32))] [(.int (-1 : Int32))])
  exact Goes.retI X5 hx hlk hret (hb hby d18_36) (by decide) (by decide) ⟨rfl, N5, e5⟩
set_option maxRecDepth 65536 in
set_option maxHeartbeats 40000000 in
theorem rmI20_1 (l : Launch) (Z : State) (a0 : Array Value) (hw : ∀ d ∈ tables_1, d.before a0 Z = true) (a : Addr) (u0 : Int32)  (h0 : Heap) (n0 : Nat) (Z0 : n0 ≤ h0.size) (O0 : Old Z n0 h0) (cs : Int32) (SC : Sta Z Z.heap "java/lang/String" "COMPACT_STRINGS" "Z" (.int cs)) (hcs : ¬ cs = (0 : Int32)) (ya : Addr) (ka : ClassId) (PA : Str Z h0 a ya ka (Int32.ofNat 1) [Value.int u0]) (g0 : ¬ u0 = (0 : Int32).toInt8.toInt32) :
    Pays l Z (⟨"java/lang/String", "indexOf", "(II)I"⟩ : MethodName) jdk_42_method_80_code 3 (some .int) [] ({ frames := 2, cells := 0, slots := 0, locals := 32 } : Room) #[(.ref a), (.int (0 : Int32)), (.int (0 : Int32))] h0 (fun v h L => v = some (.int (-1 : Int32)) ∧ Fr n0 L ∧ h = h0) := by
  refine Pays.walk (plainFor_of_name pn_1) (fun m => ef_5 m a (0 : Int32) (0 : Int32) ) ?_
  intro p e s m below meth c T0 X0 hx hby hml hown hnm hZ e0 hret hlk
  have N0 := Fr.nil n0
  have BA : Arf Z h0 ya .byte Value.int 1 (fun i => ([u0] : List Int32).getD i 0) := Arv.arf PA.2.2.2 (by decide) (own_lt1 rfl)
  refine Goes.on (T' := T0) (g' := (mkF m 1 #[.val (.ref a), .val (.int (0 : Int32)), .val (.int (0 : Int32))] [(.ref a)])) (fun _ k => XS.aloadN X0.here hx rfl (hb hby d14_0) rfl rfl k) ?_
  refine Goes.callV X0 hx hZ 0 hown (own_w hw 73 rfl) (own_w hw 74 rfl) (notFace_of_selects (args := #[]) (mvT hZ (own_w hw 76 rfl))) (own_w hw 76 rfl) (own_w hw 75 rfl) (own_w hw 9 rfl) (own_w hw 77 rfl) (by decide) e0 PA.1 (rmIl_1 l Z a0 hw a u0 h0 n0 Z0 O0 cs SC hcs ya ka PA) (by decide) (by decide) (by decide) (by decide) rfl (by rw [hml]; rfl) (argsL := []) (rest := []) rfl (lenOf pd_4 rfl) rfl (by show 2 * 0 + _ ≤ _; exact Nat.le_of_eq rfl) (hb hby d14_1) ?_
  intro v1 T1 L1 X1 hQ1
  obtain ⟨rfl, N1q, e1⟩ := hQ1
  have N1 := Fr.app N0 N1q
  show Goes p e below _ T1 (mkF m 4 #[.val (.ref a), .val (.int (0 : Int32)), .val (.int (0 : Int32))] [(.int (1 : Int32))])
  refine Goes.on (T' := T1) (g' := (mkF m 8 #[.val (.ref a), .val (.int (0 : Int32)), .val (.int (0 : Int32))] [(.ref a)])) (fun _ k => XS.ifNo X1.here hx rfl (hb hby d14_4) rfl (XT.i0_eq_f (by decide)) (XS.aloadN X1.here hx rfl (hb hby d14_7) rfl rfl k)) ?_
  obtain ⟨T2, X2, e2, st2⟩ := getF X1 hx hZ hown (host := "") (Or.inl (own_w hw 35 rfl)) Via.refl e1 PA.2.2.1 (g := (mkF m 8 #[.val (.ref a), .val (.int (0 : Int32)), .val (.int (0 : Int32))] [(.ref a)])) rfl rfl (hb hby d14_8)
  refine Goes.on (T' := T2) (g' := (mkF m 14 #[.val (.ref a), .val (.int (0 : Int32)), .val (.int (0 : Int32))] [(.ref a), (.int (0 : Int32)), (.int (0 : Int32)), (.ref ya)])) (fun _ k => st2 _ (XS.iloadN X2.here hx rfl (hb hby d14_11) rfl (XS.iloadN X2.here hx rfl (hb hby d14_12) rfl (XS.aloadN X2.here hx rfl (hb hby d14_13) rfl rfl k)))) ?_
  refine Goes.callV X2 hx hZ 3 hown (own_w hw 78 rfl) (own_w hw 79 rfl) (notFace_of_selects (args := #[]) (mvT hZ (own_w hw 81 rfl))) (own_w hw 81 rfl) (own_w hw 80 rfl) (own_w hw 9 rfl) (own_w hw 82 rfl) (by decide) e2 PA.1 (rmLn_1 l Z a0 hw a u0 h0 n0 Z0 O0 cs SC hcs ya ka PA) (by decide) (by decide) (by decide) (by decide) rfl (by rw [hml]; rfl) (argsL := []) (rest := [(.int (0 : Int32)), (.int (0 : Int32)), (.ref ya)]) rfl (lenOf pd_5 rfl) rfl (by show 2 * 0 + _ ≤ _; exact Nat.le_of_eq rfl) (hb hby d14_14) ?_
  intro v3 T3 L3 X3 hQ3
  obtain ⟨rfl, N3q, e3⟩ := hQ3
  have N3 := Fr.app N1 N3q
  show Goes p e below _ T3 (mkF m 17 #[.val (.ref a), .val (.int (0 : Int32)), .val (.int (0 : Int32))] [(.int (1 : Int32)), (.int (0 : Int32)), (.int (0 : Int32)), (.ref ya)])
  refine Goes.callS X3 hx hZ 0 hown (own_w hw 88 rfl) (own_w hw 89 rfl) (own_w hw 60 rfl) (own_w hw 90 rfl) (by decide) e3 (rmIl20_1 l Z a0 hw ya u0 h0 n0 Z0 BA g0) (by decide) (by decide) (by decide) (by decide) rfl (by rw [hml]; rfl) (argsL := [(.ref ya), (.int (0 : Int32)), (.int (0 : Int32)), (.int (1 : Int32))]) (rest := []) rfl (lenOf pd_3 rfl) rfl (by show 2 * 0 + _ ≤ _; exact Nat.le_of_eq rfl) (hb hby d14_17) ?_
  intro v4 T4 L4 X4 hQ4
  obtain ⟨rfl, N4q, e4⟩ := hQ4
  have N4 := Fr.app N3 N4q
  show Goes p e below _ T4 (mkF m 20 #[.val (.ref a), .val (.int (0 : Int32)), .val (.int (0 : Int32))] [(.int (-1 : Int32))])
  refine Goes.on (T' := T4) (g' := (mkF m 36 #[.val (.ref a), .val (.int (0 : Int32)), .val (.int (0 : Int32))] [(.int (-1 : Int32))])) (fun _ k => XS.goto X4.here hx rfl (pc0 := 20) (pc' := 36) rfl (hb hby d14_20) (by decide) (by decide) k) ?_
  exact Goes.retI X4 hx hlk hret (hb hby d14_36) (by decide) (by decide) ⟨rfl, N4, e4⟩
set_option maxRecDepth 65536 in
set_option maxHeartbeats 40000000 in
theorem rmIx0_1 (l : Launch) (Z : State) (a0 : Array Value) (hw : ∀ d ∈ tables_1, d.before a0 Z = true) (a : Addr) (u0 : Int32)  (h0 : Heap) (n0 : Nat) (Z0 : n0 ≤ h0.size) (O0 : Old Z n0 h0) (cs : Int32) (SC : Sta Z Z.heap "java/lang/String" "COMPACT_STRINGS" "Z" (.int cs)) (hcs : ¬ cs = (0 : Int32)) (ya : Addr) (ka : ClassId) (PA : Str Z h0 a ya ka (Int32.ofNat 1) [Value.int u0]) (g0 : ¬ u0 = (0 : Int32).toInt8.toInt32) :
    Pays l Z (⟨"java/lang/String", "indexOf", "(I)I"⟩ : MethodName) jdk_42_method_79_code 2 (some .int) [] ({ frames := 3, cells := 0, slots := 0, locals := 46 } : Room) #[(.ref a), (.int (0 : Int32))] h0 (fun v h L => v = some (.int (-1 : Int32)) ∧ Fr n0 L ∧ h = h0) := by
  refine Pays.walk (plainFor_of_name pn_1) (fun m => ef_6 m a (0 : Int32) ) ?_
  intro p e s m below meth c T0 X0 hx hby hml hown hnm hZ e0 hret hlk
  have N0 := Fr.nil n0
  have BA : Arf Z h0 ya .byte Value.int 1 (fun i => ([u0] : List Int32).getD i 0) := Arv.arf PA.2.2.2 (by decide) (own_lt1 rfl)
  refine Goes.on (T' := T0) (g' := (mkF m 3 #[.val (.ref a), .val (.int (0 : Int32))] [(.int (0 : Int32)), (.int (0 : Int32)), (.ref a)])) (fun _ k => XS.aloadN X0.here hx rfl (hb hby d13_0) rfl rfl (XS.iloadN X0.here hx rfl (hb hby d13_1) rfl (XS.iconst X0.here hx rfl (hb hby d13_2) k))) ?_
  refine Goes.callV X0 hx hZ 0 hown (own_w hw 68 rfl) (own_w hw 69 rfl) (notFace_of_selects (args := #[]) (mvT hZ (own_w hw 71 rfl))) (own_w hw 71 rfl) (own_w hw 70 rfl) (own_w hw 9 rfl) (own_w hw 72 rfl) (by decide) e0 PA.1 (rmI20_1 l Z a0 hw a u0 h0 n0 Z0 O0 cs SC hcs ya ka PA g0) (by decide) (by decide) (by decide) (by decide) rfl (by rw [hml]; rfl) (argsL := [(.int (0 : Int32)), (.int (0 : Int32))]) (rest := []) rfl (lenOf pd_2 rfl) rfl (by show 2 * 0 + _ ≤ _; exact Nat.le_of_eq rfl) (hb hby d13_3) ?_
  intro v1 T1 L1 X1 hQ1
  obtain ⟨rfl, N1q, e1⟩ := hQ1
  have N1 := Fr.app N0 N1q
  show Goes p e below _ T1 (mkF m 6 #[.val (.ref a), .val (.int (0 : Int32))] [(.int (-1 : Int32))])
  exact Goes.retI X1 hx hlk hret (hb hby d13_6) (by decide) (by decide) ⟨rfl, N1, e1⟩
theorem d12_0 : decode jdk_43_method_13_code 0 = .ok (.aload_n 0, 1) := by decide +kernel
theorem d12_1 : decode jdk_43_method_13_code 1 = .ok (.arraylength, 1) := by decide +kernel
theorem d12_2 : decode jdk_43_method_13_code 2 = .ok (.aload_n 1, 1) := by decide +kernel
theorem d12_3 : decode jdk_43_method_13_code 3 = .ok (.arraylength, 1) := by decide +kernel
theorem d12_4 : decode jdk_43_method_13_code 4 = .ok (.if_icmp .ne 30, 3) := by decide +kernel
theorem d12_7 : decode jdk_43_method_13_code 7 = .ok (.iconst 0, 1) := by decide +kernel
theorem d12_8 : decode jdk_43_method_13_code 8 = .ok (.istore_n 2, 1) := by decide +kernel
theorem d12_9 : decode jdk_43_method_13_code 9 = .ok (.iload_n 2, 1) := by decide +kernel
theorem d12_10 : decode jdk_43_method_13_code 10 = .ok (.aload_n 0, 1) := by decide +kernel
theorem d12_11 : decode jdk_43_method_13_code 11 = .ok (.arraylength, 1) := by decide +kernel
theorem d12_12 : decode jdk_43_method_13_code 12 = .ok (.if_icmp .ge 20, 3) := by decide +kernel
theorem d12_15 : decode jdk_43_method_13_code 15 = .ok (.aload_n 0, 1) := by decide +kernel
theorem d12_16 : decode jdk_43_method_13_code 16 = .ok (.iload_n 2, 1) := by decide +kernel
theorem d12_17 : decode jdk_43_method_13_code 17 = .ok (.baload, 1) := by decide +kernel
theorem d12_18 : decode jdk_43_method_13_code 18 = .ok (.aload_n 1, 1) := by decide +kernel
theorem d12_19 : decode jdk_43_method_13_code 19 = .ok (.iload_n 2, 1) := by decide +kernel
theorem d12_20 : decode jdk_43_method_13_code 20 = .ok (.baload, 1) := by decide +kernel
theorem d12_21 : decode jdk_43_method_13_code 21 = .ok (.if_icmp .eq 5, 3) := by decide +kernel
theorem d12_26 : decode jdk_43_method_13_code 26 = .ok (.iinc 2 1, 3) := by decide +kernel
theorem d12_29 : decode jdk_43_method_13_code 29 = .ok (.goto (-20), 3) := by decide +kernel
theorem d12_32 : decode jdk_43_method_13_code 32 = .ok (.iconst 1, 1) := by decide +kernel
theorem d12_33 : decode jdk_43_method_13_code 33 = .ok (.ireturn, 1) := by decide +kernel
theorem d12_24 : decode jdk_43_method_13_code 24 = .ok (.iconst 0, 1) := by decide +kernel
theorem d12_25 : decode jdk_43_method_13_code 25 = .ok (.ireturn, 1) := by decide +kernel
theorem ef_7 (m : MethodId) (x0 : Addr) (x1 : Addr) : entryFrame m #[(.ref x0), (.ref x1)] 3 = mkF m 0 #[.val (.ref x0), .val (.ref x1), .unset] [] := by first | (simp [entryFrame, mkF, argsToLocals, Value.category]; done) | rfl
set_option maxRecDepth 65536 in
set_option maxHeartbeats 40000000 in
theorem rmLed1_1 (l : Launch) (Z : State) (a0 : Array Value) (hw : ∀ d ∈ tables_1, d.before a0 Z = true) (a b : Addr) (u0 : Int32)  (h0 : Heap) (n0 : Nat) (Z0 : n0 ≤ h0.size) (B0 : Arf Z h0 a .byte Value.int 1 (fun i => ([u0] : List Int32).getD i 0)) (B1 : Arf Z h0 b .byte Value.int 1 (fun i => ([(46 : Int32)] : List Int32).getD i 0)) (z : Int32) (hz : z = 0 ∨ z = 1) (hP : z = 1 ↔ u0 = (46 : Int32)) :
    Pays l Z (⟨"java/lang/StringLatin1", "equals", "([B[B)Z"⟩ : MethodName) jdk_43_method_13_code 3 (some .boolean) [] ({ frames := 0, cells := 0, slots := 0, locals := 0 } : Room) #[(.ref a), (.ref b)] h0 (fun v h L => v = some (.int z) ∧ Fr n0 L ∧ h = h0) := by
  refine Pays.walk (plainFor_of_name pn_2) (fun m => ef_7 m a b ) ?_
  intro p e s m below meth c T0 X0 hx hby hml hown hnm hZ e0 hret hlk
  have N0 := Fr.nil n0
  refine Goes.on (T' := T0) (g' := (mkF m 16 #[.val (.ref a), .val (.ref b), .val (.int (0 : Int32))] [(.ref a)])) (fun _ k => XS.aloadN X0.here hx rfl (hb hby d12_0) rfl rfl (aLenm X0 hx hZ e0 B0 (hb hby d12_1) (XS.aloadN X0.here hx rfl (hb hby d12_2) rfl rfl (aLenm X0 hx hZ e0 B1 (hb hby d12_3) (XS.icmpNo X0.here hx rfl (hb hby d12_4) rfl (XT.ii_ne_f (by decide)) (XS.iconst X0.here hx rfl (hb hby d12_7) (XS.istoreN X0.here hx rfl (hb hby d12_8) rfl (l' := #[.val (.ref a), .val (.ref b), .val (.int (0 : Int32))]) rfl (XS.iloadN X0.here hx rfl (hb hby d12_9) rfl (XS.aloadN X0.here hx rfl (hb hby d12_10) rfl rfl (aLenm X0 hx hZ e0 B0 (hb hby d12_11) (XS.icmpNo X0.here hx rfl (hb hby d12_12) rfl (XT.ii_ge_f (by decide)) (XS.aloadN X0.here hx rfl (hb hby d12_15) rfl rfl k)))))))))))) ?_
  refine Goes.on (T' := T0) (g' := (mkF m 21 #[.val (.ref a), .val (.ref b), .val (.int (0 : Int32))] [(.int (46 : Int32)), (.int u0)])) (fun _ k => XS.iloadN X0.here hx rfl (hb hby d12_16) rfl (ldYm X0 hx hZ e0 B0 (by decide) (hb hby d12_17) (XS.aloadN X0.here hx rfl (hb hby d12_18) rfl rfl (XS.iloadN X0.here hx rfl (hb hby d12_19) rfl (ldYm X0 hx hZ e0 B1 (by decide) (hb hby d12_20) k))))) ?_
  by_cases hc6 : u0 = (46 : Int32)
  · refine Goes.on (T' := T0) (g' := (mkF m 33 #[.val (.ref a), .val (.ref b), .val (.int (1 : Int32))] [(.int (1 : Int32))])) (fun _ k => XS.icmpYes X0.here hx rfl (pc0 := 21) (pc' := 26) rfl (hb hby d12_21) rfl (XT.ii_eq_t hc6) (by decide) (by decide) (XT.iincV X0.here hx rfl (1 : Int32) (hb hby d12_26) (by decide) rfl (l' := #[.val (.ref a), .val (.ref b), .val (.int (1 : Int32))]) rfl (XS.goto X0.here hx rfl (pc0 := 29) (pc' := 9) rfl (hb hby d12_29) (by decide) (by decide) (XS.iloadN X0.here hx rfl (hb hby d12_9) rfl (XS.aloadN X0.here hx rfl (hb hby d12_10) rfl rfl (aLenm X0 hx hZ e0 B0 (hb hby d12_11) (XS.icmpYes X0.here hx rfl (pc0 := 12) (pc' := 32) rfl (hb hby d12_12) rfl (XT.ii_ge_t (by decide)) (by decide) (by decide) (XS.iconst X0.here hx rfl (hb hby d12_32) k)))))))) ?_
    exact Goes.retB X0 hx hlk hret (Or.inr rfl) (hb hby d12_33) (by decide) (by decide) ⟨own_is1 hP hc6, N0, e0⟩
  · refine Goes.on (T' := T0) (g' := (mkF m 25 #[.val (.ref a), .val (.ref b), .val (.int (0 : Int32))] [(.int (0 : Int32))])) (fun _ k => XS.icmpNo X0.here hx rfl (hb hby d12_21) rfl (XT.ii_eq_f hc6) (XS.iconst X0.here hx rfl (hb hby d12_24) k)) ?_
    exact Goes.retB X0 hx hlk hret (Or.inl rfl) (hb hby d12_25) (by decide) (by decide) ⟨own_is0 hz hP (fun q => hc6 q), N0, e0⟩
theorem d11_0 : decode jdk_42_method_66_code 0 = .ok (.aload_n 0, 1) := by decide +kernel
theorem d11_1 : decode jdk_42_method_66_code 1 = .ok (.aload_n 1, 1) := by decide +kernel
theorem d11_2 : decode jdk_42_method_66_code 2 = .ok (.if_acmp .ne 5, 3) := by decide +kernel
theorem d11_5 : decode jdk_42_method_66_code 5 = .ok (.iconst 1, 1) := by decide +kernel
theorem d11_6 : decode jdk_42_method_66_code 6 = .ok (.ireturn, 1) := by decide +kernel
theorem d11_7 : decode jdk_42_method_66_code 7 = .ok (.aload_n 1, 1) := by decide +kernel
theorem d11_8 : decode jdk_42_method_66_code 8 = .ok (.instanceof 10, 3) := by decide +kernel
theorem d11_11 : decode jdk_42_method_66_code 11 = .ok (.ifCond .eq 43, 3) := by decide +kernel
theorem d11_14 : decode jdk_42_method_66_code 14 = .ok (.aload_n 1, 1) := by decide +kernel
theorem d11_15 : decode jdk_42_method_66_code 15 = .ok (.checkcast 10, 3) := by decide +kernel
theorem d11_18 : decode jdk_42_method_66_code 18 = .ok (.astore_n 2, 1) := by decide +kernel
theorem d11_19 : decode jdk_42_method_66_code 19 = .ok (.getstatic 38, 3) := by decide +kernel
theorem d11_22 : decode jdk_42_method_66_code 22 = .ok (.ifCond .eq 14, 3) := by decide +kernel
theorem d11_25 : decode jdk_42_method_66_code 25 = .ok (.aload_n 0, 1) := by decide +kernel
theorem d11_26 : decode jdk_42_method_66_code 26 = .ok (.getfield 15, 3) := by decide +kernel
theorem d11_29 : decode jdk_42_method_66_code 29 = .ok (.aload_n 2, 1) := by decide +kernel
theorem d11_30 : decode jdk_42_method_66_code 30 = .ok (.getfield 15, 3) := by decide +kernel
theorem d11_33 : decode jdk_42_method_66_code 33 = .ok (.if_icmp .ne 21, 3) := by decide +kernel
theorem d11_36 : decode jdk_42_method_66_code 36 = .ok (.aload_n 0, 1) := by decide +kernel
theorem d11_37 : decode jdk_42_method_66_code 37 = .ok (.getfield 9, 3) := by decide +kernel
theorem d11_40 : decode jdk_42_method_66_code 40 = .ok (.aload_n 2, 1) := by decide +kernel
theorem d11_41 : decode jdk_42_method_66_code 41 = .ok (.getfield 9, 3) := by decide +kernel
theorem pd_6 : parseMethodDescriptor "([B[B)Z" = some ⟨[(.array .byte), (.array .byte)], some .boolean⟩ := by decide +kernel
theorem d11_44 : decode jdk_42_method_66_code 44 = .ok (.invokestatic 541, 3) := by decide +kernel
theorem d11_47 : decode jdk_42_method_66_code 47 = .ok (.ifCond .eq 7, 3) := by decide +kernel
theorem d11_54 : decode jdk_42_method_66_code 54 = .ok (.iconst 0, 1) := by decide +kernel
theorem d11_55 : decode jdk_42_method_66_code 55 = .ok (.ireturn, 1) := by decide +kernel
theorem d11_50 : decode jdk_42_method_66_code 50 = .ok (.iconst 1, 1) := by decide +kernel
theorem d11_51 : decode jdk_42_method_66_code 51 = .ok (.goto 4, 3) := by decide +kernel
set_option maxRecDepth 65536 in
set_option maxHeartbeats 40000000 in
theorem rmEqd1_1 (l : Launch) (Z : State) (a0 : Array Value) (hw : ∀ d ∈ tables_1, d.before a0 Z = true) (a b : Addr) (u0 : Int32)  (h0 : Heap) (n0 : Nat) (Z0 : n0 ≤ h0.size) (O0 : Old Z n0 h0) (cs : Int32) (SC : Sta Z Z.heap "java/lang/String" "COMPACT_STRINGS" "Z" (.int cs)) (hcs : ¬ cs = (0 : Int32)) (ya yb : Addr) (ka kb : ClassId) (PA : Str Z h0 a ya ka (Int32.ofNat 1) [Value.int u0]) (PB : Str Z h0 b yb kb (Int32.ofNat 1) [Value.int (46 : Int32)]) (z : Int32) (hz : z = 0 ∨ z = 1) (hP : z = 1 ↔ u0 = (46 : Int32)) :
    Pays l Z (⟨"java/lang/String", "equals", "(Ljava/lang/Object;)Z"⟩ : MethodName) jdk_42_method_66_code 3 (some .boolean) [] ({ frames := 1, cells := 0, slots := 0, locals := 14 } : Room) #[(.ref a), (.ref b)] h0 (fun v h L => v = some (.int z) ∧ Fr n0 L ∧ h = h0) := by
  refine Pays.walk (plainFor_of_name pn_1) (fun m => ef_7 m a b ) ?_
  intro p e s m below meth c T0 X0 hx hby hml hown hnm hZ e0 hret hlk
  have N0 := Fr.nil n0
  have BA : Arf Z h0 ya .byte Value.int 1 (fun i => ([u0] : List Int32).getD i 0) := Arv.arf PA.2.2.2 (by decide) (own_lt1 rfl)
  have BB : Arf Z h0 yb .byte Value.int 1 (fun i => ([(46 : Int32)] : List Int32).getD i 0) := Arv.arf PB.2.2.2 (by decide) (own_lt1 rfl)
  refine Goes.on (T' := T0) (g' := (mkF m 2 #[.val (.ref a), .val (.ref b), .unset] [(.ref b), (.ref a)])) (fun _ k => XS.aloadN X0.here hx rfl (hb hby d11_0) rfl rfl (XS.aloadN X0.here hx rfl (hb hby d11_1) rfl rfl k)) ?_
  by_cases hc1 : ((.ref a) : Value) = (.ref b)
  · refine Goes.on (T' := T0) (g' := (mkF m 6 #[.val (.ref a), .val (.ref b), .unset] [(.int (1 : Int32))])) (fun _ k => XT.acmpNo X0.here hx rfl (hb hby d11_2) rfl rfl rfl (XT.aa_ne_f hc1) (XS.iconst X0.here hx rfl (hb hby d11_5) k)) ?_
    exact Goes.retB X0 hx hlk hret (Or.inr rfl) (hb hby d11_6) (by decide) (by decide) ⟨own_is1 hP (own_s1 (own_same PA PB (Value.ref.inj hc1) (by decide)).2), N0, e0⟩
  · refine Goes.on (T' := T0) (g' := (mkF m 8 #[.val (.ref a), .val (.ref b), .unset] [(.ref b)])) (fun _ k => XT.acmpYes X0.here hx rfl (pc0 := 2) (pc' := 7) rfl (hb hby d11_2) rfl rfl rfl (XT.aa_ne_t hc1) (by decide) (by decide) (XS.aloadN X0.here hx rfl (hb hby d11_7) rfl rfl k)) ?_
    obtain ⟨T2, X2, e2, st2⟩ := instY X0 hx hZ hown (own_w hw 57 rfl) e0 (Ins.self PB.1) (g := (mkF m 8 #[.val (.ref a), .val (.ref b), .unset] [(.ref b)])) rfl rfl (hb hby d11_8)
    refine Goes.on (T' := T2) (g' := (mkF m 15 #[.val (.ref a), .val (.ref b), .unset] [(.ref b)])) (fun _ k => st2 _ (XS.ifNo X2.here hx rfl (hb hby d11_11) rfl (XT.i0_eq_f (by decide)) (XS.aloadN X2.here hx rfl (hb hby d11_14) rfl rfl k))) ?_
    obtain ⟨T3, X3, e3, st3⟩ := castY X2 hx hZ hown (own_w hw 57 rfl) e2 (Ins.self PB.1) (g := (mkF m 15 #[.val (.ref a), .val (.ref b), .unset] [(.ref b)])) rfl rfl (hb hby d11_15)
    refine Goes.on (T' := T3) (g' := (mkF m 19 #[.val (.ref a), .val (.ref b), .val (.ref b)] [])) (fun _ k => st3 _ (XS.astoreN X3.here hx rfl (hb hby d11_18) rfl rfl (l' := #[.val (.ref a), .val (.ref b), .val (.ref b)]) rfl k)) ?_
    obtain ⟨T4, X4, e4, st4⟩ := getS (host := "") X3 hx hZ hown (own_w hw 21 rfl) Via.refl e3 (Sta.ext O0.2 SC) (g := (mkF m 19 #[.val (.ref a), .val (.ref b), .val (.ref b)] [])) rfl (hb hby d11_19)
    refine Goes.on (T' := T4) (g' := (mkF m 26 #[.val (.ref a), .val (.ref b), .val (.ref b)] [(.ref a)])) (fun _ k => st4 _ (XS.ifNo X4.here hx rfl (hb hby d11_22) rfl (XT.i0_eq_f hcs) (XS.aloadN X4.here hx rfl (hb hby d11_25) rfl rfl k))) ?_
    obtain ⟨T5, X5, e5, st5⟩ := getF X4 hx hZ hown (host := "") (Or.inl (own_w hw 33 rfl)) Via.refl e4 PA.2.1 (g := (mkF m 26 #[.val (.ref a), .val (.ref b), .val (.ref b)] [(.ref a)])) rfl rfl (hb hby d11_26)
    refine Goes.on (T' := T5) (g' := (mkF m 30 #[.val (.ref a), .val (.ref b), .val (.ref b)] [(.ref b), (.int (0 : Int32))])) (fun _ k => st5 _ (XS.aloadN X5.here hx rfl (hb hby d11_29) rfl rfl k)) ?_
    obtain ⟨T6, X6, e6, st6⟩ := getF X5 hx hZ hown (host := "") (Or.inl (own_w hw 33 rfl)) Via.refl e5 PB.2.1 (g := (mkF m 30 #[.val (.ref a), .val (.ref b), .val (.ref b)] [(.ref b), (.int (0 : Int32))])) rfl rfl (hb hby d11_30)
    refine Goes.on (T' := T6) (g' := (mkF m 37 #[.val (.ref a), .val (.ref b), .val (.ref b)] [(.ref a)])) (fun _ k => st6 _ (XS.icmpNo X6.here hx rfl (hb hby d11_33) rfl (XT.ii_ne_f (by decide)) (XS.aloadN X6.here hx rfl (hb hby d11_36) rfl rfl k))) ?_
    obtain ⟨T7, X7, e7, st7⟩ := getF X6 hx hZ hown (host := "") (Or.inl (own_w hw 35 rfl)) Via.refl e6 PA.2.2.1 (g := (mkF m 37 #[.val (.ref a), .val (.ref b), .val (.ref b)] [(.ref a)])) rfl rfl (hb hby d11_37)
    refine Goes.on (T' := T7) (g' := (mkF m 41 #[.val (.ref a), .val (.ref b), .val (.ref b)] [(.ref b), (.ref ya)])) (fun _ k => st7 _ (XS.aloadN X7.here hx rfl (hb hby d11_40) rfl rfl k)) ?_
    obtain ⟨T8, X8, e8, st8⟩ := getF X7 hx hZ hown (host := "") (Or.inl (own_w hw 35 rfl)) Via.refl e7 PB.2.2.1 (g := (mkF m 41 #[.val (.ref a), .val (.ref b), .val (.ref b)] [(.ref b), (.ref ya)])) rfl rfl (hb hby d11_41)
    refine Goes.on (T' := T8) (g' := (mkF m 44 #[.val (.ref a), .val (.ref b), .val (.ref b)] [(.ref yb), (.ref ya)])) (fun _ k => st8 _ k) ?_
    refine Goes.callS X8 hx hZ 0 hown (own_w hw 58 rfl) (own_w hw 59 rfl) (own_w hw 60 rfl) (own_w hw 61 rfl) (by decide) e8 (rmLed1_1 l Z a0 hw ya yb u0 h0 n0 Z0 BA BB z hz hP) (by decide) (by decide) (by decide) (by decide) rfl (by rw [hml]; rfl) (argsL := [(.ref ya), (.ref yb)]) (rest := []) rfl (lenOf pd_6 rfl) rfl (by show 2 * 0 + _ ≤ _; exact Nat.le_of_eq rfl) (hb hby d11_44) ?_
    intro v9 T9 L9 X9 hQ9
    obtain ⟨rfl, N9q, e9⟩ := hQ9
    have N9 := Fr.app N0 N9q
    show Goes p e below _ T9 (mkF m 47 #[.val (.ref a), .val (.ref b), .val (.ref b)] [(.int z)])
    by_cases hc10 : z = (0 : Int32)
    · refine Goes.on (T' := T9) (g' := (mkF m 55 #[.val (.ref a), .val (.ref b), .val (.ref b)] [(.int (0 : Int32))])) (fun _ k => XS.ifYes X9.here hx rfl (pc0 := 47) (pc' := 54) rfl (hb hby d11_47) rfl (XT.i0_eq_t hc10) (by decide) (by decide) (XS.iconst X9.here hx rfl (hb hby d11_54) k)) ?_
      exact Goes.retB X9 hx hlk hret (Or.inl rfl) (hb hby d11_55) (by decide) (by decide) ⟨own_z hc10, N9, e9⟩
    · refine Goes.on (T' := T9) (g' := (mkF m 55 #[.val (.ref a), .val (.ref b), .val (.ref b)] [(.int (1 : Int32))])) (fun _ k => XS.ifNo X9.here hx rfl (hb hby d11_47) rfl (XT.i0_eq_f hc10) (XS.iconst X9.here hx rfl (hb hby d11_50) (XS.goto X9.here hx rfl (pc0 := 51) (pc' := 55) rfl (hb hby d11_51) (by decide) (by decide) k))) ?_
      exact Goes.retB X9 hx hlk hret (Or.inr rfl) (hb hby d11_55) (by decide) (by decide) ⟨own_nz hz hc10, N9, e9⟩
theorem d12_34 : decode jdk_43_method_13_code 34 = .ok (.iconst 0, 1) := by decide +kernel
theorem d12_35 : decode jdk_43_method_13_code 35 = .ok (.ireturn, 1) := by decide +kernel
set_option maxRecDepth 65536 in
set_option maxHeartbeats 40000000 in
theorem rmLed2_1 (l : Launch) (Z : State) (a0 : Array Value) (hw : ∀ d ∈ tables_1, d.before a0 Z = true) (a b : Addr) (u0 : Int32)  (h0 : Heap) (n0 : Nat) (Z0 : n0 ≤ h0.size) (B0 : Arf Z h0 a .byte Value.int 1 (fun i => ([u0] : List Int32).getD i 0)) (B1 : Arf Z h0 b .byte Value.int 2 (fun i => ([(46 : Int32), (46 : Int32)] : List Int32).getD i 0)) (z : Int32) (hz : z = 0 ∨ z = 1) (hP : z = 1 ↔ False) :
    Pays l Z (⟨"java/lang/StringLatin1", "equals", "([B[B)Z"⟩ : MethodName) jdk_43_method_13_code 3 (some .boolean) [] ({ frames := 0, cells := 0, slots := 0, locals := 0 } : Room) #[(.ref a), (.ref b)] h0 (fun v h L => v = some (.int z) ∧ Fr n0 L ∧ h = h0) := by
  refine Pays.walk (plainFor_of_name pn_2) (fun m => ef_7 m a b ) ?_
  intro p e s m below meth c T0 X0 hx hby hml hown hnm hZ e0 hret hlk
  have N0 := Fr.nil n0
  refine Goes.on (T' := T0) (g' := (mkF m 35 #[.val (.ref a), .val (.ref b), .unset] [(.int (0 : Int32))])) (fun _ k => XS.aloadN X0.here hx rfl (hb hby d12_0) rfl rfl (aLenm X0 hx hZ e0 B0 (hb hby d12_1) (XS.aloadN X0.here hx rfl (hb hby d12_2) rfl rfl (aLenm X0 hx hZ e0 B1 (hb hby d12_3) (XS.icmpYes X0.here hx rfl (pc0 := 4) (pc' := 34) rfl (hb hby d12_4) rfl (XT.ii_ne_t (by decide)) (by decide) (by decide) (XS.iconst X0.here hx rfl (hb hby d12_34) k)))))) ?_
  exact Goes.retB X0 hx hlk hret (Or.inl rfl) (hb hby d12_35) (by decide) (by decide) ⟨own_is0 hz hP (fun q => q), N0, e0⟩
set_option maxRecDepth 65536 in
set_option maxHeartbeats 40000000 in
theorem rmEqd2_1 (l : Launch) (Z : State) (a0 : Array Value) (hw : ∀ d ∈ tables_1, d.before a0 Z = true) (a b : Addr) (u0 : Int32)  (h0 : Heap) (n0 : Nat) (Z0 : n0 ≤ h0.size) (O0 : Old Z n0 h0) (cs : Int32) (SC : Sta Z Z.heap "java/lang/String" "COMPACT_STRINGS" "Z" (.int cs)) (hcs : ¬ cs = (0 : Int32)) (ya yb : Addr) (ka kb : ClassId) (PA : Str Z h0 a ya ka (Int32.ofNat 1) [Value.int u0]) (PB : Str Z h0 b yb kb (Int32.ofNat 2) [Value.int (46 : Int32), Value.int (46 : Int32)]) (z : Int32) (hz : z = 0 ∨ z = 1) (hP : z = 1 ↔ False) :
    Pays l Z (⟨"java/lang/String", "equals", "(Ljava/lang/Object;)Z"⟩ : MethodName) jdk_42_method_66_code 3 (some .boolean) [] ({ frames := 1, cells := 0, slots := 0, locals := 14 } : Room) #[(.ref a), (.ref b)] h0 (fun v h L => v = some (.int z) ∧ Fr n0 L ∧ h = h0) := by
  refine Pays.walk (plainFor_of_name pn_1) (fun m => ef_7 m a b ) ?_
  intro p e s m below meth c T0 X0 hx hby hml hown hnm hZ e0 hret hlk
  have N0 := Fr.nil n0
  have BA : Arf Z h0 ya .byte Value.int 1 (fun i => ([u0] : List Int32).getD i 0) := Arv.arf PA.2.2.2 (by decide) (own_lt1 rfl)
  have BB : Arf Z h0 yb .byte Value.int 2 (fun i => ([(46 : Int32), (46 : Int32)] : List Int32).getD i 0) := Arv.arf PB.2.2.2 (by decide) (own_lt2 rfl rfl)
  refine Goes.on (T' := T0) (g' := (mkF m 2 #[.val (.ref a), .val (.ref b), .unset] [(.ref b), (.ref a)])) (fun _ k => XS.aloadN X0.here hx rfl (hb hby d11_0) rfl rfl (XS.aloadN X0.here hx rfl (hb hby d11_1) rfl rfl k)) ?_
  by_cases hc1 : ((.ref a) : Value) = (.ref b)
  · refine Goes.on (T' := T0) (g' := (mkF m 6 #[.val (.ref a), .val (.ref b), .unset] [(.int (1 : Int32))])) (fun _ k => XT.acmpNo X0.here hx rfl (hb hby d11_2) rfl rfl rfl (XT.aa_ne_f hc1) (XS.iconst X0.here hx rfl (hb hby d11_5) k)) ?_
    exact Goes.retB X0 hx hlk hret (Or.inr rfl) (hb hby d11_6) (by decide) (by decide) ⟨own_is1 hP (absurd (own_same PA PB (Value.ref.inj hc1) (n := 1) (by decide)).1 (by decide)), N0, e0⟩
  · refine Goes.on (T' := T0) (g' := (mkF m 8 #[.val (.ref a), .val (.ref b), .unset] [(.ref b)])) (fun _ k => XT.acmpYes X0.here hx rfl (pc0 := 2) (pc' := 7) rfl (hb hby d11_2) rfl rfl rfl (XT.aa_ne_t hc1) (by decide) (by decide) (XS.aloadN X0.here hx rfl (hb hby d11_7) rfl rfl k)) ?_
    obtain ⟨T2, X2, e2, st2⟩ := instY X0 hx hZ hown (own_w hw 57 rfl) e0 (Ins.self PB.1) (g := (mkF m 8 #[.val (.ref a), .val (.ref b), .unset] [(.ref b)])) rfl rfl (hb hby d11_8)
    refine Goes.on (T' := T2) (g' := (mkF m 15 #[.val (.ref a), .val (.ref b), .unset] [(.ref b)])) (fun _ k => st2 _ (XS.ifNo X2.here hx rfl (hb hby d11_11) rfl (XT.i0_eq_f (by decide)) (XS.aloadN X2.here hx rfl (hb hby d11_14) rfl rfl k))) ?_
    obtain ⟨T3, X3, e3, st3⟩ := castY X2 hx hZ hown (own_w hw 57 rfl) e2 (Ins.self PB.1) (g := (mkF m 15 #[.val (.ref a), .val (.ref b), .unset] [(.ref b)])) rfl rfl (hb hby d11_15)
    refine Goes.on (T' := T3) (g' := (mkF m 19 #[.val (.ref a), .val (.ref b), .val (.ref b)] [])) (fun _ k => st3 _ (XS.astoreN X3.here hx rfl (hb hby d11_18) rfl rfl (l' := #[.val (.ref a), .val (.ref b), .val (.ref b)]) rfl k)) ?_
    obtain ⟨T4, X4, e4, st4⟩ := getS (host := "") X3 hx hZ hown (own_w hw 21 rfl) Via.refl e3 (Sta.ext O0.2 SC) (g := (mkF m 19 #[.val (.ref a), .val (.ref b), .val (.ref b)] [])) rfl (hb hby d11_19)
    refine Goes.on (T' := T4) (g' := (mkF m 26 #[.val (.ref a), .val (.ref b), .val (.ref b)] [(.ref a)])) (fun _ k => st4 _ (XS.ifNo X4.here hx rfl (hb hby d11_22) rfl (XT.i0_eq_f hcs) (XS.aloadN X4.here hx rfl (hb hby d11_25) rfl rfl k))) ?_
    obtain ⟨T5, X5, e5, st5⟩ := getF X4 hx hZ hown (host := "") (Or.inl (own_w hw 33 rfl)) Via.refl e4 PA.2.1 (g := (mkF m 26 #[.val (.ref a), .val (.ref b), .val (.ref b)] [(.ref a)])) rfl rfl (hb hby d11_26)
    refine Goes.on (T' := T5) (g' := (mkF m 30 #[.val (.ref a), .val (.ref b), .val (.ref b)] [(.ref b), (.int (0 : Int32))])) (fun _ k => st5 _ (XS.aloadN X5.here hx rfl (hb hby d11_29) rfl rfl k)) ?_
    obtain ⟨T6, X6, e6, st6⟩ := getF X5 hx hZ hown (host := "") (Or.inl (own_w hw 33 rfl)) Via.refl e5 PB.2.1 (g := (mkF m 30 #[.val (.ref a), .val (.ref b), .val (.ref b)] [(.ref b), (.int (0 : Int32))])) rfl rfl (hb hby d11_30)
    refine Goes.on (T' := T6) (g' := (mkF m 37 #[.val (.ref a), .val (.ref b), .val (.ref b)] [(.ref a)])) (fun _ k => st6 _ (XS.icmpNo X6.here hx rfl (hb hby d11_33) rfl (XT.ii_ne_f (by decide)) (XS.aloadN X6.here hx rfl (hb hby d11_36) rfl rfl k))) ?_
    obtain ⟨T7, X7, e7, st7⟩ := getF X6 hx hZ hown (host := "") (Or.inl (own_w hw 35 rfl)) Via.refl e6 PA.2.2.1 (g := (mkF m 37 #[.val (.ref a), .val (.ref b), .val (.ref b)] [(.ref a)])) rfl rfl (hb hby d11_37)
    refine Goes.on (T' := T7) (g' := (mkF m 41 #[.val (.ref a), .val (.ref b), .val (.ref b)] [(.ref b), (.ref ya)])) (fun _ k => st7 _ (XS.aloadN X7.here hx rfl (hb hby d11_40) rfl rfl k)) ?_
    obtain ⟨T8, X8, e8, st8⟩ := getF X7 hx hZ hown (host := "") (Or.inl (own_w hw 35 rfl)) Via.refl e7 PB.2.2.1 (g := (mkF m 41 #[.val (.ref a), .val (.ref b), .val (.ref b)] [(.ref b), (.ref ya)])) rfl rfl (hb hby d11_41)
    refine Goes.on (T' := T8) (g' := (mkF m 44 #[.val (.ref a), .val (.ref b), .val (.ref b)] [(.ref yb), (.ref ya)])) (fun _ k => st8 _ k) ?_
    refine Goes.callS X8 hx hZ 0 hown (own_w hw 58 rfl) (own_w hw 59 rfl) (own_w hw 60 rfl) (own_w hw 61 rfl) (by decide) e8 (rmLed2_1 l Z a0 hw ya yb u0 h0 n0 Z0 BA BB z hz hP) (by decide) (by decide) (by decide) (by decide) rfl (by rw [hml]; rfl) (argsL := [(.ref ya), (.ref yb)]) (rest := []) rfl (lenOf pd_6 rfl) rfl (by show 2 * 0 + _ ≤ _; exact Nat.le_of_eq rfl) (hb hby d11_44) ?_
    intro v9 T9 L9 X9 hQ9
    obtain ⟨rfl, N9q, e9⟩ := hQ9
    have N9 := Fr.app N0 N9q
    show Goes p e below _ T9 (mkF m 47 #[.val (.ref a), .val (.ref b), .val (.ref b)] [(.int z)])
    by_cases hc10 : z = (0 : Int32)
    · refine Goes.on (T' := T9) (g' := (mkF m 55 #[.val (.ref a), .val (.ref b), .val (.ref b)] [(.int (0 : Int32))])) (fun _ k => XS.ifYes X9.here hx rfl (pc0 := 47) (pc' := 54) rfl (hb hby d11_47) rfl (XT.i0_eq_t hc10) (by decide) (by decide) (XS.iconst X9.here hx rfl (hb hby d11_54) k)) ?_
      exact Goes.retB X9 hx hlk hret (Or.inl rfl) (hb hby d11_55) (by decide) (by decide) ⟨own_z hc10, N9, e9⟩
    · refine Goes.on (T' := T9) (g' := (mkF m 55 #[.val (.ref a), .val (.ref b), .val (.ref b)] [(.int (1 : Int32))])) (fun _ k => XS.ifNo X9.here hx rfl (hb hby d11_47) rfl (XT.i0_eq_f hc10) (XS.iconst X9.here hx rfl (hb hby d11_50) (XS.goto X9.here hx rfl (pc0 := 51) (pc' := 55) rfl (hb hby d11_51) (by decide) (by decide) k))) ?_
      exact Goes.retB X9 hx hlk hret (Or.inr rfl) (hb hby d11_55) (by decide) (by decide) ⟨own_nz hz hc10, N9, e9⟩
theorem d9_0 : decode prog_13_method_1_code 0 = .ok (.aload_n 0, 1) := by decide +kernel
theorem d9_1 : decode prog_13_method_1_code 1 = .ok (.invokespecial 1, 3) := by decide +kernel
theorem d9_4 : decode prog_13_method_1_code 4 = .ok (.aload_n 1, 1) := by decide +kernel
theorem d9_5 : decode prog_13_method_1_code 5 = .ok (.invokevirtual 7, 3) := by decide +kernel
theorem d9_8 : decode prog_13_method_1_code 8 = .ok (.ifCond .ne 38, 3) := by decide +kernel
theorem d9_11 : decode prog_13_method_1_code 11 = .ok (.aload_n 1, 1) := by decide +kernel
theorem d9_12 : decode prog_13_method_1_code 12 = .ok (.ldc 13, 2) := by decide +kernel
theorem pd_7 : parseMethodDescriptor "(Ljava/lang/Object;)Z" = some ⟨[(.object "java/lang/Object")], some .boolean⟩ := by decide +kernel
theorem d9_14 : decode prog_13_method_1_code 14 = .ok (.invokevirtual 15, 3) := by decide +kernel
theorem d9_17 : decode prog_13_method_1_code 17 = .ok (.ifCond .ne 29, 3) := by decide +kernel
theorem d9_20 : decode prog_13_method_1_code 20 = .ok (.aload_n 1, 1) := by decide +kernel
theorem d9_21 : decode prog_13_method_1_code 21 = .ok (.ldc 19, 2) := by decide +kernel
theorem d9_23 : decode prog_13_method_1_code 23 = .ok (.invokevirtual 15, 3) := by decide +kernel
theorem d9_26 : decode prog_13_method_1_code 26 = .ok (.ifCond .ne 20, 3) := by decide +kernel
theorem d9_29 : decode prog_13_method_1_code 29 = .ok (.aload_n 1, 1) := by decide +kernel
theorem d9_30 : decode prog_13_method_1_code 30 = .ok (.bipush 47, 2) := by decide +kernel
theorem pd_8 : parseMethodDescriptor "(I)I" = some ⟨[.int], some .int⟩ := by decide +kernel
theorem d9_32 : decode prog_13_method_1_code 32 = .ok (.invokevirtual 21, 3) := by decide +kernel
theorem d9_35 : decode prog_13_method_1_code 35 = .ok (.ifCond .ge 11, 3) := by decide +kernel
theorem d9_38 : decode prog_13_method_1_code 38 = .ok (.aload_n 1, 1) := by decide +kernel
theorem d9_39 : decode prog_13_method_1_code 39 = .ok (.iconst 0, 1) := by decide +kernel
theorem d9_40 : decode prog_13_method_1_code 40 = .ok (.invokevirtual 21, 3) := by decide +kernel
theorem d9_43 : decode prog_13_method_1_code 43 = .ok (.ifCond .lt 17, 3) := by decide +kernel
theorem d9_60 : decode prog_13_method_1_code 60 = .ok (.aload_n 0, 1) := by decide +kernel
theorem d9_61 : decode prog_13_method_1_code 61 = .ok (.aload_n 1, 1) := by decide +kernel
theorem d9_62 : decode prog_13_method_1_code 62 = .ok (.putfield 34, 3) := by decide +kernel
theorem d9_65 : decode prog_13_method_1_code 65 = .ok (.aload_n 0, 1) := by decide +kernel
theorem d9_66 : decode prog_13_method_1_code 66 = .ok (.lload_n 2, 1) := by decide +kernel
theorem d9_67 : decode prog_13_method_1_code 67 = .ok (.putfield 40, 3) := by decide +kernel
theorem d9_70 : decode prog_13_method_1_code 70 = .ok (.return_, 1) := by decide +kernel
theorem ef_8 (m : MethodId) (x0 : Addr) (x1 : Addr) (x2 : Int64) : entryFrame m #[(.ref x0), (.ref x1), (.long x2)] 4 = mkF m 0 #[.val (.ref x0), .val (.ref x1), .val (.long x2), .second] [] := by first | (simp [entryFrame, mkF, argsToLocals, Value.category]; done) | rfl
theorem pn_3 : plainName "com/example/narada/narada/ObjectAddress" = true := by first | (simp [plainName, overriddenIn]; done) | decide +kernel
set_option maxRecDepth 65536 in
set_option maxHeartbeats 40000000 in
theorem rmOa_1 (l : Launch) (Z : State) (a0 : Array Value) (hw : ∀ d ∈ tables_1, d.before a0 Z = true) (a : Addr) (x1 : Addr) (x2 : Int64) (h0 : Heap) (n0 : Nat) (Z0 : n0 ≤ h0.size) (E0 : Exa Z h0 a "com/example/narada/narada/ObjectAddress") (ga : n0 ≤ a) (F_endpoint : Fld Z h0 a "com/example/narada/narada/ObjectAddress" "endpoint" "Ljava/lang/String;" .null) (F_object : Fld Z h0 a "com/example/narada/narada/ObjectAddress" "object" "J" (.long (0 : Int64))) (hEL : EW Z a0 consts_1) (O0 : Old Z n0 h0) (cs : Int32) (SC : Sta Z Z.heap "java/lang/String" "COMPACT_STRINGS" "Z" (.int cs)) (hcs : ¬ cs = (0 : Int32)) (ya : Addr) (ka : ClassId) (u0 : Int32) (PA : Str Z h0 x1 ya ka (Int32.ofNat 1) [Value.int u0]) (k1 : ¬ (u0 = (46 : Int32))) (k2 : ¬ (False)) (gs0 : ¬ u0 = (47 : Int32).toInt8.toInt32) (gn0 : ¬ u0 = (0 : Int32).toInt8.toInt32) :
    PaysW l Z consts_1 (⟨"com/example/narada/narada/ObjectAddress", "<init>", "(Ljava/lang/String;J)V"⟩ : MethodName) prog_13_method_1_code 4 none [] ({ frames := 4, cells := 4, slots := 40, locals := 59 } : Room) #[(.ref a), (.ref x1), (.long x2)] h0 (fun v h L => v = none ∧ Fr n0 L ∧ Keep h0 h [a] ∧ Exa Z h a "com/example/narada/narada/ObjectAddress" ∧ Fld Z h a "com/example/narada/narada/ObjectAddress" "endpoint" "Ljava/lang/String;" (.ref x1) ∧ Fld Z h a "com/example/narada/narada/ObjectAddress" "object" "J" (.long x2)) := by
  refine PaysW.walk (plainFor_of_name pn_3) (fun m => ef_8 m a x1 x2 ) ?_
  intro p e s m below meth c T0 X0 hx hby hml hown hnm hZ e0 hret hlk hS0 RR0
  have hk0 : 0 ≤ h0.size := Nat.zero_le _
  have S0 : h0.size ≤ h0.size := Nat.le_refl _
  have wS := own_wS hw
  have N0 := Fr.nil n0
  have K0 := Keep.refl h0 [a]
  refine Goes.on (T' := T0) (g' := (mkF m 1 #[.val (.ref a), .val (.ref x1), .val (.long x2), .second] [(.ref a)])) (fun _ k => XS.aloadN X0.here hx rfl (hb hby d9_0) rfl rfl k) ?_
  obtain ⟨T1, X1, e1, st1⟩ := initO X0 hx hZ hown (own_w hw 43 rfl) (own_w hw 19 rfl) (own_w hw 20 rfl) e0 (g := (mkF m 1 #[.val (.ref a), .val (.ref x1), .val (.long x2), .second] [(.ref a)])) rfl (by rw [hml]; rfl) rfl (hb hby d9_1) (by decide) (W := 0) (by show 2 * 0 + _ ≤ _; exact Nat.le_of_eq rfl) (by decide)
  refine Goes.on (T' := T1) (g' := (mkF m 5 #[.val (.ref a), .val (.ref x1), .val (.long x2), .second] [(.ref x1)])) (fun _ k => st1 _ (XS.aloadN X1.here hx rfl (hb hby d9_4) rfl rfl k)) ?_
  refine Goes.callV X1 hx hZ 0 hown (own_w hw 44 rfl) (own_w hw 45 rfl) (notFace_of_selects (args := #[]) (mvT hZ (own_w hw 47 rfl))) (own_w hw 47 rfl) (own_w hw 46 rfl) (own_w hw 9 rfl) (own_w hw 48 rfl) (by decide) e1 (PA).1 (rmEm_1 l Z a0 hw x1 u0 h0 n0 Z0 O0 cs SC hcs ya ka PA ) (by decide) (by decide) (by decide) (by decide) rfl (by rw [hml]; rfl) (argsL := []) (rest := []) rfl (lenOf pd_4 rfl) rfl (by show 2 * 0 + _ ≤ _; exact Nat.le_of_eq rfl) (hb hby d9_5) ?_
  intro v2 T2 L2 X2 hQ2
  obtain ⟨rfl, N2q, e2⟩ := hQ2
  have N2 := Fr.app N0 N2q
  show Goes p e below _ T2 (mkF m 8 #[.val (.ref a), .val (.ref x1), .val (.long x2), .second] [(.int (0 : Int32))])
  refine Goes.on (T' := T2) (g' := (mkF m 12 #[.val (.ref a), .val (.ref x1), .val (.long x2), .second] [(.ref x1)])) (fun _ k => XS.ifNo X2.here hx rfl (hb hby d9_8) rfl (XT.i0_ne_f (by decide)) (XS.aloadN X2.here hx rfl (hb hby d9_11) rfl rfl k)) ?_
  obtain ⟨a3, T3, h3, k3, b3, kb3, X3, e3, E3, hS3, hk3, hZ3, hown3, A3, C3, V3, K3, lt3, lu3, R3, Lt3, sf3, st3⟩ := ldcCH X2 hx hZ hown (own_w hw 49 rfl) wS e2 hS0 hk0 hEL (List.mem_of_getElem? (i := 0) rfl) RR0.1 (vs := [Value.int 46]) (z := Int32.ofNat 1) ⟨by decide, by decide⟩ (by decide) (by decide) (g := (mkF m 12 #[.val (.ref a), .val (.ref x1), .val (.long x2), .second] [(.ref x1)])) rfl (hb hby d9_12) (n := 4) (by decide) (by decide) (by decide) (by decide)
  have C4 := E0.ext E3
  have C5 := F_endpoint.ext E3
  have C6 := F_object.ext E3
  have C7 := O0.ext E3
  have C8 := PA.ext E3
  have Z9 : n0 ≤ h3.size := Nat.le_trans Z0 E3.1
  have K12 := K0.ext E3
  have RR3 := RR0.trans R3
  have Q3 : Str Z h3 a3 b3 kb3 (Int32.ofNat 1) [Value.int 46] := ⟨A3, C3, V3, K3⟩
  refine Goes.on (T' := T3) (g' := (mkF m 14 #[.val (.ref a), .val (.ref x1), .val (.long x2), .second] [(.ref a3), (.ref x1)])) (fun _ k => st3 _ k) ?_
  refine Goes.callV X3 hx hZ3 0 hown3 (own_w hw 52 rfl) (own_w hw 53 rfl) (notFace_of_selects (args := #[]) (mvT hZ3 (own_w hw 55 rfl))) (own_w hw 55 rfl) (own_w hw 54 rfl) (own_w hw 9 rfl) (own_w hw 56 rfl) (by decide) e3 (C8).1 (rmEqd1_1 l Z a0 hw x1 a3 u0 h3 n0 Z9 C7 cs SC hcs ya b3 ka kb3 C8 Q3 (0 : Int32) (Or.inl rfl) (own_F k1)) (by decide) (by decide) (by decide) (by decide) rfl (by rw [hml]; rfl) (argsL := [(.ref a3)]) (rest := []) rfl (lenOf pd_7 rfl) rfl (by show 2 * 0 + _ ≤ _; exact Nat.le_of_eq rfl) (hb hby d9_14) ?_
  intro v13 T13 L13 X13 hQ13
  obtain ⟨rfl, N13q, e13⟩ := hQ13
  have N13 := Fr.app N2 N13q
  show Goes p e below _ T13 (mkF m 17 #[.val (.ref a), .val (.ref x1), .val (.long x2), .second] [(.int (0 : Int32))])
  refine Goes.on (T' := T13) (g' := (mkF m 21 #[.val (.ref a), .val (.ref x1), .val (.long x2), .second] [(.ref x1)])) (fun _ k => XS.ifNo X13.here hx rfl (hb hby d9_17) rfl (XT.i0_ne_f (by decide)) (XS.aloadN X13.here hx rfl (hb hby d9_20) rfl rfl k)) ?_
  obtain ⟨a14, T14, h14, k14, b14, kb14, X14, e14, E14, hS14, hk14, hZ14, hown14, A14, C14, V14, K14, lt14, lu14, R14, Lt14, sf14, st14⟩ := ldcCH X13 hx hZ3 hown3 (own_w hw 62 rfl) wS e13 hS3 hk3 hEL (List.mem_of_getElem? (i := 1) rfl) RR3.1 (vs := [Value.int 46, Value.int 46]) (z := Int32.ofNat 2) ⟨by decide, by decide⟩ (by decide) (by decide) (g := (mkF m 21 #[.val (.ref a), .val (.ref x1), .val (.long x2), .second] [(.ref x1)])) rfl (hb hby d9_21) (n := 8) (by decide) (by decide) (by decide) (by decide)
  have C15 := C4.ext E14
  have C16 := C5.ext E14
  have C17 := C6.ext E14
  have C18 := C7.ext E14
  have C19 := C8.ext E14
  have Z21 : n0 ≤ h14.size := Nat.le_trans Z9 E14.1
  have K24 := K12.ext E14
  have RR14 := RR3.trans R14
  have Q14 : Str Z h14 a14 b14 kb14 (Int32.ofNat 2) [Value.int 46, Value.int 46] := ⟨A14, C14, V14, K14⟩
  refine Goes.on (T' := T14) (g' := (mkF m 23 #[.val (.ref a), .val (.ref x1), .val (.long x2), .second] [(.ref a14), (.ref x1)])) (fun _ k => st14 _ k) ?_
  refine Goes.callV X14 hx hZ14 0 hown14 (own_w hw 52 rfl) (own_w hw 53 rfl) (notFace_of_selects (args := #[]) (mvT hZ14 (own_w hw 55 rfl))) (own_w hw 55 rfl) (own_w hw 54 rfl) (own_w hw 9 rfl) (own_w hw 56 rfl) (by decide) e14 (C19).1 (rmEqd2_1 l Z a0 hw x1 a14 u0 h14 n0 Z21 C18 cs SC hcs ya b14 ka kb14 C19 Q14 (0 : Int32) (Or.inl rfl) (own_F k2)) (by decide) (by decide) (by decide) (by decide) rfl (by rw [hml]; rfl) (argsL := [(.ref a14)]) (rest := []) rfl (lenOf pd_7 rfl) rfl (by show 2 * 0 + _ ≤ _; exact Nat.le_of_eq rfl) (hb hby d9_23) ?_
  intro v25 T25 L25 X25 hQ25
  obtain ⟨rfl, N25q, e25⟩ := hQ25
  have N25 := Fr.app N13 N25q
  show Goes p e below _ T25 (mkF m 26 #[.val (.ref a), .val (.ref x1), .val (.long x2), .second] [(.int (0 : Int32))])
  refine Goes.on (T' := T25) (g' := (mkF m 32 #[.val (.ref a), .val (.ref x1), .val (.long x2), .second] [(.int (47 : Int32)), (.ref x1)])) (fun _ k => XS.ifNo X25.here hx rfl (hb hby d9_26) rfl (XT.i0_ne_f (by decide)) (XS.aloadN X25.here hx rfl (hb hby d9_29) rfl rfl (XS.bipush X25.here hx rfl (hb hby d9_30) k))) ?_
  refine Goes.callV X25 hx hZ14 0 hown14 (own_w hw 63 rfl) (own_w hw 64 rfl) (notFace_of_selects (args := #[]) (mvT hZ14 (own_w hw 66 rfl))) (own_w hw 66 rfl) (own_w hw 65 rfl) (own_w hw 9 rfl) (own_w hw 67 rfl) (by decide) e25 (C19).1 (rmIx47_1 l Z a0 hw x1 u0 h14 n0 Z21 C18 cs SC hcs ya ka C19 gs0) (by decide) (by decide) (by decide) (by decide) rfl (by rw [hml]; rfl) (argsL := [(.int (47 : Int32))]) (rest := []) rfl (lenOf pd_8 rfl) rfl (by show 2 * 0 + _ ≤ _; exact Nat.le_of_eq rfl) (hb hby d9_32) ?_
  intro v26 T26 L26 X26 hQ26
  obtain ⟨rfl, N26q, e26⟩ := hQ26
  have N26 := Fr.app N25 N26q
  show Goes p e below _ T26 (mkF m 35 #[.val (.ref a), .val (.ref x1), .val (.long x2), .second] [(.int (-1 : Int32))])
  refine Goes.on (T' := T26) (g' := (mkF m 40 #[.val (.ref a), .val (.ref x1), .val (.long x2), .second] [(.int (0 : Int32)), (.ref x1)])) (fun _ k => XS.ifNo X26.here hx rfl (hb hby d9_35) rfl (XT.i0_ge_f (by decide)) (XS.aloadN X26.here hx rfl (hb hby d9_38) rfl rfl (XS.iconst X26.here hx rfl (hb hby d9_39) k))) ?_
  refine Goes.callV X26 hx hZ14 0 hown14 (own_w hw 63 rfl) (own_w hw 64 rfl) (notFace_of_selects (args := #[]) (mvT hZ14 (own_w hw 66 rfl))) (own_w hw 66 rfl) (own_w hw 65 rfl) (own_w hw 9 rfl) (own_w hw 67 rfl) (by decide) e26 (C19).1 (rmIx0_1 l Z a0 hw x1 u0 h14 n0 Z21 C18 cs SC hcs ya ka C19 gn0) (by decide) (by decide) (by decide) (by decide) rfl (by rw [hml]; rfl) (argsL := [(.int (0 : Int32))]) (rest := []) rfl (lenOf pd_8 rfl) rfl (by show 2 * 0 + _ ≤ _; exact Nat.le_of_eq rfl) (hb hby d9_40) ?_
  intro v27 T27 L27 X27 hQ27
  obtain ⟨rfl, N27q, e27⟩ := hQ27
  have N27 := Fr.app N26 N27q
  show Goes p e below _ T27 (mkF m 43 #[.val (.ref a), .val (.ref x1), .val (.long x2), .second] [(.int (-1 : Int32))])
  refine Goes.on (T' := T27) (g' := (mkF m 62 #[.val (.ref a), .val (.ref x1), .val (.long x2), .second] [(.ref x1), (.ref a)])) (fun _ k => XS.ifYes X27.here hx rfl (pc0 := 43) (pc' := 60) rfl (hb hby d9_43) rfl (XT.i0_lt_t (by decide)) (by decide) (by decide) (XS.aloadN X27.here hx rfl (hb hby d9_60) rfl rfl (XS.aloadN X27.here hx rfl (hb hby d9_61) rfl rfl k))) ?_
  obtain ⟨T28, h28, X28, e28, W28, st28⟩ := putF X27 hx hZ14 hown14 (host := "") (Or.inl (own_w hw 104 rfl)) Via.refl e27 C16 C15 (Or.inr ⟨(own_w hw 105 rfl), rfl, hnm⟩) (own_w hw 38 rfl) (ty := (.object "java/lang/String")) (by decide) rfl rfl (g := (mkF m 62 #[.val (.ref a), .val (.ref x1), .val (.long x2), .second] [(.ref x1), (.ref a)])) rfl rfl (hb hby d9_62)
  have N28 := Fr.snoc X28 N27 ga
  have C29 := C15.wr W28
  have C30 := C16.same W28
  have C31 := C17.other W28 (Or.inr (slot_ne (Or.inr (own_w hw 107 rfl)) (Or.inr (own_w hw 105 rfl)) (by decide) (t := .long) (by decide) (t' := (.object "java/lang/String")) (by decide)))
  have Z34 : k14 ≤ h28.size := by rw [W28.size]; exact hk14
  have RR36 := RR14.trans (CHr.wr W28 (Safe.exa hZ14.alike C15 (by decide) (by decide)) RR14.1)
  have K37 := K24.wr W28 (Or.inl (List.mem_of_getElem? (i := 0) rfl))
  refine Goes.on (T' := T28) (g' := (mkF m 67 #[.val (.ref a), .val (.ref x1), .val (.long x2), .second] [(.long x2), (.ref a)])) (fun _ k => st28 _ (XS.aloadN X28.here hx rfl (hb hby d9_65) rfl rfl (XS.lloadN X28.here hx rfl (hb hby d9_66) rfl k))) ?_
  obtain ⟨T38, h38, X38, e38, W38, st38⟩ := putF X28 hx hZ14 hown14 (host := "") (Or.inl (own_w hw 106 rfl)) Via.refl e28 C31 C29 (Or.inr ⟨(own_w hw 107 rfl), rfl, hnm⟩) (own_w hw 38 rfl) (ty := .long) (by decide) rfl rfl (g := (mkF m 67 #[.val (.ref a), .val (.ref x1), .val (.long x2), .second] [(.long x2), (.ref a)])) rfl rfl (hb hby d9_67)
  have N38 := Fr.snoc X38 N28 ga
  have C39 := C29.wr W38
  have C40 := C30.other W38 (Or.inr (slot_ne (Or.inr (own_w hw 105 rfl)) (Or.inr (own_w hw 107 rfl)) (by decide) (t := (.object "java/lang/String")) (by decide) (t' := .long) (by decide)))
  have C41 := C31.same W38
  have Z44 : k14 ≤ h38.size := by rw [W38.size]; exact Z34
  have RR46 := RR36.trans (CHr.wr W38 (Safe.exa hZ14.alike C29 (by decide) (by decide)) RR36.1)
  have K47 := K37.wr W38 (Or.inl (List.mem_of_getElem? (i := 0) rfl))
  refine Goes.on (T' := T38) (g' := (mkF m 70 #[.val (.ref a), .val (.ref x1), .val (.long x2), .second] [])) (fun _ k => st38 _ k) ?_
  exact Goes.retVW X38 hS14 (by rw [e38]; exact Z44) hZ14 hEL (by rw [e38]; exact RR46) hx hlk hret (hb hby d9_70) (by decide) (by decide) (by rw [e38]; exact ⟨rfl, N38, K47, C39, C40, C41⟩)
set_option maxRecDepth 65536 in
set_option maxHeartbeats 40000000 in
theorem rmEm_2 (l : Launch) (Z : State) (a0 : Array Value) (hw : ∀ d ∈ tables_1, d.before a0 Z = true) (a : Addr) (u0 u1 : Int32)  (h0 : Heap) (n0 : Nat) (Z0 : n0 ≤ h0.size) (O0 : Old Z n0 h0) (cs : Int32) (SC : Sta Z Z.heap "java/lang/String" "COMPACT_STRINGS" "Z" (.int cs)) (hcs : ¬ cs = (0 : Int32)) (ya : Addr) (ka : ClassId) (PA : Str Z h0 a ya ka (Int32.ofNat 2) [Value.int u0, Value.int u1]) :
    Pays l Z (⟨"java/lang/String", "isEmpty", "()Z"⟩ : MethodName) jdk_42_method_55_code 1 (some .boolean) [] ({ frames := 0, cells := 0, slots := 0, locals := 0 } : Room) #[(.ref a)] h0 (fun v h L => v = some (.int (0 : Int32)) ∧ Fr n0 L ∧ h = h0) := by
  refine Pays.walk (plainFor_of_name pn_1) (fun m => ef_1 m a ) ?_
  intro p e s m below meth c T0 X0 hx hby hml hown hnm hZ e0 hret hlk
  have N0 := Fr.nil n0
  have BA : Arf Z h0 ya .byte Value.int 2 (fun i => ([u0, u1] : List Int32).getD i 0) := Arv.arf PA.2.2.2 (by decide) (own_lt2 rfl rfl)
  refine Goes.on (T' := T0) (g' := (mkF m 1 #[.val (.ref a)] [(.ref a)])) (fun _ k => XS.aloadN X0.here hx rfl (hb hby d10_0) rfl rfl k) ?_
  obtain ⟨T1, X1, e1, st1⟩ := getF X0 hx hZ hown (host := "") (Or.inl (own_w hw 35 rfl)) Via.refl e0 PA.2.2.1 (g := (mkF m 1 #[.val (.ref a)] [(.ref a)])) rfl rfl (hb hby d10_1)
  refine Goes.on (T' := T1) (g' := (mkF m 13 #[.val (.ref a)] [(.int (0 : Int32))])) (fun _ k => st1 _ (aLenm X1 hx hZ e1 BA (hb hby d10_4) (XS.ifYes X1.here hx rfl (pc0 := 5) (pc' := 12) rfl (hb hby d10_5) rfl (XT.i0_ne_t (by decide)) (by decide) (by decide) (XS.iconst X1.here hx rfl (hb hby d10_12) k)))) ?_
  exact Goes.retB X1 hx hlk hret (Or.inl rfl) (hb hby d10_13) (by decide) (by decide) ⟨rfl, N0, e1⟩
set_option maxRecDepth 65536 in
set_option maxHeartbeats 40000000 in
theorem rmCo_2 (l : Launch) (Z : State) (a0 : Array Value) (hw : ∀ d ∈ tables_1, d.before a0 Z = true) (a : Addr) (u0 u1 : Int32)  (h0 : Heap) (n0 : Nat) (Z0 : n0 ≤ h0.size) (O0 : Old Z n0 h0) (cs : Int32) (SC : Sta Z Z.heap "java/lang/String" "COMPACT_STRINGS" "Z" (.int cs)) (hcs : ¬ cs = (0 : Int32)) (ya : Addr) (ka : ClassId) (PA : Str Z h0 a ya ka (Int32.ofNat 2) [Value.int u0, Value.int u1]) :
    Pays l Z (⟨"java/lang/String", "coder", "()B"⟩ : MethodName) jdk_42_method_152_code 1 (some .byte) [] ({ frames := 0, cells := 0, slots := 0, locals := 0 } : Room) #[(.ref a)] h0 (fun v h L => v = some (.int (0 : Int32)) ∧ Fr n0 L ∧ h = h0) := by
  refine Pays.walk (plainFor_of_name pn_1) (fun m => ef_1 m a ) ?_
  intro p e s m below meth c T0 X0 hx hby hml hown hnm hZ e0 hret hlk
  have N0 := Fr.nil n0
  have BA : Arf Z h0 ya .byte Value.int 2 (fun i => ([u0, u1] : List Int32).getD i 0) := Arv.arf PA.2.2.2 (by decide) (own_lt2 rfl rfl)
  obtain ⟨T1, X1, e1, st1⟩ := getS (host := "") X0 hx hZ hown (own_w hw 21 rfl) Via.refl e0 (Sta.ext O0.2 SC) (g := (mkF m 0 #[.val (.ref a)] [])) rfl (hb hby d17_0)
  refine Goes.on (T' := T1) (g' := (mkF m 7 #[.val (.ref a)] [(.ref a)])) (fun _ k => st1 _ (XS.ifNo X1.here hx rfl (hb hby d17_3) rfl (XT.i0_eq_f hcs) (XS.aloadN X1.here hx rfl (hb hby d17_6) rfl rfl k))) ?_
  obtain ⟨T2, X2, e2, st2⟩ := getF X1 hx hZ hown (host := "") (Or.inl (own_w hw 33 rfl)) Via.refl e1 PA.2.1 (g := (mkF m 7 #[.val (.ref a)] [(.ref a)])) rfl rfl (hb hby d17_7)
  refine Goes.on (T' := T2) (g' := (mkF m 14 #[.val (.ref a)] [(.int (0 : Int32))])) (fun _ k => st2 _ (XS.goto X2.here hx rfl (pc0 := 10) (pc' := 14) rfl (hb hby d17_10) (by decide) (by decide) k)) ?_
  exact Goes.retY X2 hx hlk hret rfl (hb hby d17_14) (by decide) (by decide) ⟨rfl, N0, e2⟩
set_option maxRecDepth 65536 in
set_option maxHeartbeats 40000000 in
theorem rmIl_2 (l : Launch) (Z : State) (a0 : Array Value) (hw : ∀ d ∈ tables_1, d.before a0 Z = true) (a : Addr) (u0 u1 : Int32)  (h0 : Heap) (n0 : Nat) (Z0 : n0 ≤ h0.size) (O0 : Old Z n0 h0) (cs : Int32) (SC : Sta Z Z.heap "java/lang/String" "COMPACT_STRINGS" "Z" (.int cs)) (hcs : ¬ cs = (0 : Int32)) (ya : Addr) (ka : ClassId) (PA : Str Z h0 a ya ka (Int32.ofNat 2) [Value.int u0, Value.int u1]) :
    Pays l Z (⟨"java/lang/String", "isLatin1", "()Z"⟩ : MethodName) jdk_42_method_154_code 1 (some .boolean) [] ({ frames := 0, cells := 0, slots := 0, locals := 0 } : Room) #[(.ref a)] h0 (fun v h L => v = some (.int (1 : Int32)) ∧ Fr n0 L ∧ h = h0) := by
  refine Pays.walk (plainFor_of_name pn_1) (fun m => ef_1 m a ) ?_
  intro p e s m below meth c T0 X0 hx hby hml hown hnm hZ e0 hret hlk
  have N0 := Fr.nil n0
  have BA : Arf Z h0 ya .byte Value.int 2 (fun i => ([u0, u1] : List Int32).getD i 0) := Arv.arf PA.2.2.2 (by decide) (own_lt2 rfl rfl)
  obtain ⟨T1, X1, e1, st1⟩ := getS (host := "") X0 hx hZ hown (own_w hw 21 rfl) Via.refl e0 (Sta.ext O0.2 SC) (g := (mkF m 0 #[.val (.ref a)] [])) rfl (hb hby d15_0)
  refine Goes.on (T' := T1) (g' := (mkF m 7 #[.val (.ref a)] [(.ref a)])) (fun _ k => st1 _ (XS.ifNo X1.here hx rfl (hb hby d15_3) rfl (XT.i0_eq_f hcs) (XS.aloadN X1.here hx rfl (hb hby d15_6) rfl rfl k))) ?_
  obtain ⟨T2, X2, e2, st2⟩ := getF X1 hx hZ hown (host := "") (Or.inl (own_w hw 33 rfl)) Via.refl e1 PA.2.1 (g := (mkF m 7 #[.val (.ref a)] [(.ref a)])) rfl rfl (hb hby d15_7)
  refine Goes.on (T' := T2) (g' := (mkF m 18 #[.val (.ref a)] [(.int (1 : Int32))])) (fun _ k => st2 _ (XS.ifNo X2.here hx rfl (hb hby d15_10) rfl (XT.i0_ne_f (by decide)) (XS.iconst X2.here hx rfl (hb hby d15_13) (XS.goto X2.here hx rfl (pc0 := 14) (pc' := 18) rfl (hb hby d15_14) (by decide) (by decide) k)))) ?_
  exact Goes.retB X2 hx hlk hret (Or.inr rfl) (hb hby d15_18) (by decide) (by decide) ⟨rfl, N0, e2⟩
set_option maxRecDepth 65536 in
set_option maxHeartbeats 40000000 in
theorem rmLn_2 (l : Launch) (Z : State) (a0 : Array Value) (hw : ∀ d ∈ tables_1, d.before a0 Z = true) (a : Addr) (u0 u1 : Int32)  (h0 : Heap) (n0 : Nat) (Z0 : n0 ≤ h0.size) (O0 : Old Z n0 h0) (cs : Int32) (SC : Sta Z Z.heap "java/lang/String" "COMPACT_STRINGS" "Z" (.int cs)) (hcs : ¬ cs = (0 : Int32)) (ya : Addr) (ka : ClassId) (PA : Str Z h0 a ya ka (Int32.ofNat 2) [Value.int u0, Value.int u1]) :
    Pays l Z (⟨"java/lang/String", "length", "()I"⟩ : MethodName) jdk_42_method_54_code 1 (some .int) [] ({ frames := 1, cells := 0, slots := 0, locals := 13 } : Room) #[(.ref a)] h0 (fun v h L => v = some (.int (2 : Int32)) ∧ Fr n0 L ∧ h = h0) := by
  refine Pays.walk (plainFor_of_name pn_1) (fun m => ef_1 m a ) ?_
  intro p e s m below meth c T0 X0 hx hby hml hown hnm hZ e0 hret hlk
  have N0 := Fr.nil n0
  have BA : Arf Z h0 ya .byte Value.int 2 (fun i => ([u0, u1] : List Int32).getD i 0) := Arv.arf PA.2.2.2 (by decide) (own_lt2 rfl rfl)
  refine Goes.on (T' := T0) (g' := (mkF m 1 #[.val (.ref a)] [(.ref a)])) (fun _ k => XS.aloadN X0.here hx rfl (hb hby d16_0) rfl rfl k) ?_
  obtain ⟨T1, X1, e1, st1⟩ := getF X0 hx hZ hown (host := "") (Or.inl (own_w hw 35 rfl)) Via.refl e0 PA.2.2.1 (g := (mkF m 1 #[.val (.ref a)] [(.ref a)])) rfl rfl (hb hby d16_1)
  refine Goes.on (T' := T1) (g' := (mkF m 6 #[.val (.ref a)] [(.ref a), (.int (2 : Int32))])) (fun _ k => st1 _ (aLenm X1 hx hZ e1 BA (hb hby d16_4) (XS.aloadN X1.here hx rfl (hb hby d16_5) rfl rfl k))) ?_
  refine Goes.callV X1 hx hZ 1 hown (own_w hw 83 rfl) (own_w hw 84 rfl) (notFace_of_selects (args := #[]) (mvT hZ (own_w hw 86 rfl))) (own_w hw 86 rfl) (own_w hw 85 rfl) (own_w hw 9 rfl) (own_w hw 87 rfl) (by decide) e1 PA.1 (rmCo_2 l Z a0 hw a u0 u1 h0 n0 Z0 O0 cs SC hcs ya ka PA) (by decide) (by decide) (by decide) (by decide) rfl (by rw [hml]; rfl) (argsL := []) (rest := [(.int (2 : Int32))]) rfl (lenOf pd_0 rfl) rfl (by show 2 * 0 + _ ≤ _; exact Nat.le_of_eq rfl) (hb hby d16_6) ?_
  intro v3 T3 L3 X3 hQ3
  obtain ⟨rfl, N3q, e3⟩ := hQ3
  have N3 := Fr.app N0 N3q
  show Goes p e below _ T3 (mkF m 9 #[.val (.ref a)] [(.int (0 : Int32)), (.int (2 : Int32))])
  refine Goes.on (T' := T3) (g' := (mkF m 10 #[.val (.ref a)] [(.int (2 : Int32))])) (fun _ k => XS.ishr X3.here hx rfl (hb hby d16_9) rfl k) ?_
  exact Goes.retI X3 hx hlk hret (hb hby d16_10) (by decide) (by decide) ⟨rfl, N3, e3⟩
set_option maxRecDepth 65536 in
set_option maxHeartbeats 40000000 in
theorem rmMn2 (l : Launch) (Z : State) (a0 : Array Value) (hw : ∀ d ∈ tables_1, d.before a0 Z = true)  (h0 : Heap) (n0 : Nat) (Z0 : n0 ≤ h0.size) :
    Pays l Z (⟨"java/lang/Math", "min", "(II)I"⟩ : MethodName) jdk_29_method_69_code 2 (some .int) [] ({ frames := 0, cells := 0, slots := 0, locals := 0 } : Room) #[(.int (2 : Int32)), (.int (2 : Int32))] h0 (fun v h L => v = some (.int (2 : Int32)) ∧ Fr n0 L ∧ h = h0) := by
  refine Pays.walk (by decide +kernel) (fun m => ef_2 m (2 : Int32) (2 : Int32) ) ?_
  intro p e s m below meth c T0 X0 hx hby hml hown hnm hZ e0 hret hlk
  have N0 := Fr.nil n0
  refine Goes.on (T' := T0) (g' := (mkF m 10 #[.val (.int (2 : Int32)), .val (.int (2 : Int32))] [(.int (2 : Int32))])) (fun _ k => XS.iloadN X0.here hx rfl (hb hby d21_0) rfl (XS.iloadN X0.here hx rfl (hb hby d21_1) rfl (XS.icmpNo X0.here hx rfl (hb hby d21_2) rfl (XT.ii_gt_f (by decide)) (XS.iloadN X0.here hx rfl (hb hby d21_5) rfl (XS.goto X0.here hx rfl (pc0 := 6) (pc' := 10) rfl (hb hby d21_6) (by decide) (by decide) k))))) ?_
  exact Goes.retI X0 hx hlk hret (hb hby d21_10) (by decide) (by decide) ⟨rfl, N0, e0⟩
set_option maxRecDepth 65536 in
set_option maxHeartbeats 40000000 in
theorem rmIc47_2 (l : Launch) (Z : State) (a0 : Array Value) (hw : ∀ d ∈ tables_1, d.before a0 Z = true) (ya : Addr) (u0 u1 : Int32)  (h0 : Heap) (n0 : Nat) (Z0 : n0 ≤ h0.size) (BA : Arf Z h0 ya .byte Value.int 2 (fun i => ([u0, u1] : List Int32).getD i 0)) (g0 : ¬ u0 = (47 : Int32).toInt8.toInt32) (g1 : ¬ u1 = (47 : Int32).toInt8.toInt32) :
    Pays l Z (⟨"java/lang/StringLatin1", "indexOfChar", "([BIII)I"⟩ : MethodName) jdk_43_method_23_code 6 (some .int) [] ({ frames := 0, cells := 0, slots := 0, locals := 0 } : Room) #[(.ref ya), (.int (47 : Int32)), (.int (0 : Int32)), (.int (2 : Int32))] h0 (fun v h L => v = some (.int (-1 : Int32)) ∧ Fr n0 L ∧ h = h0) := by
  refine Pays.walk (plainFor_of_name pn_2) (fun m => ef_3 m ya (47 : Int32) (0 : Int32) (2 : Int32) ) ?_
  intro p e s m below meth c T0 X0 hx hby hml hown hnm hZ e0 hret hlk
  have N0 := Fr.nil n0
  refine Goes.on (T' := T0) (g' := (mkF m 19 #[.val (.ref ya), .val (.int (47 : Int32)), .val (.int (0 : Int32)), .val (.int (2 : Int32)), .val (.int ((47 : Int32).toInt8.toInt32)), .val (.int (0 : Int32))] [(.int ((47 : Int32).toInt8.toInt32)), (.int u0)])) (fun _ k => XS.iloadN X0.here hx rfl (hb hby d22_0) rfl (XS.i2b X0.here hx rfl (hb hby d22_1) rfl (XS.istore X0.here hx rfl (hb hby d22_2) rfl (l' := #[.val (.ref ya), .val (.int (47 : Int32)), .val (.int (0 : Int32)), .val (.int (2 : Int32)), .val (.int ((47 : Int32).toInt8.toInt32)), .unset]) rfl (XS.iloadN X0.here hx rfl (hb hby d22_4) rfl (XS.istore X0.here hx rfl (hb hby d22_5) rfl (l' := #[.val (.ref ya), .val (.int (47 : Int32)), .val (.int (0 : Int32)), .val (.int (2 : Int32)), .val (.int ((47 : Int32).toInt8.toInt32)), .val (.int (0 : Int32))]) rfl (XS.iload X0.here hx rfl (hb hby d22_7) rfl (XS.iloadN X0.here hx rfl (hb hby d22_9) rfl (XS.icmpNo X0.here hx rfl (hb hby d22_10) rfl (XT.ii_ge_f (by decide)) (XS.aloadN X0.here hx rfl (hb hby d22_13) rfl rfl (XS.iload X0.here hx rfl (hb hby d22_14) rfl (ldYm X0 hx hZ e0 BA (by decide) (hb hby d22_16) (XS.iload X0.here hx rfl (hb hby d22_17) rfl k)))))))))))) ?_
  refine Goes.on (T' := T0) (g' := (mkF m 28 #[.val (.ref ya), .val (.int (47 : Int32)), .val (.int (0 : Int32)), .val (.int (2 : Int32)), .val (.int ((47 : Int32).toInt8.toInt32)), .val (.int (2 : Int32))] [])) (fun _ k => XS.icmpYes X0.here hx rfl (pc0 := 19) (pc' := 25) rfl (hb hby d22_19) rfl (XT.ii_ne_t g0) (by decide) (by decide) (XT.iincV X0.here hx rfl (1 : Int32) (hb hby d22_25) (by decide) rfl (l' := #[.val (.ref ya), .val (.int (47 : Int32)), .val (.int (0 : Int32)), .val (.int (2 : Int32)), .val (.int ((47 : Int32).toInt8.toInt32)), .val (.int (1 : Int32))]) rfl (XS.goto X0.here hx rfl (pc0 := 28) (pc' := 7) rfl (hb hby d22_28) (by decide) (by decide) (XS.iload X0.here hx rfl (hb hby d22_7) rfl (XS.iloadN X0.here hx rfl (hb hby d22_9) rfl (XS.icmpNo X0.here hx rfl (hb hby d22_10) rfl (XT.ii_ge_f (by decide)) (XS.aloadN X0.here hx rfl (hb hby d22_13) rfl rfl (XS.iload X0.here hx rfl (hb hby d22_14) rfl (ldYm X0 hx hZ e0 BA (by decide) (hb hby d22_16) (XS.iload X0.here hx rfl (hb hby d22_17) rfl (XS.icmpYes X0.here hx rfl (pc0 := 19) (pc' := 25) rfl (hb hby d22_19) rfl (XT.ii_ne_t g1) (by decide) (by decide) (XT.iincV X0.here hx rfl (1 : Int32) (hb hby d22_25) (by decide) rfl (l' := #[.val (.ref ya), .val (.int (47 : Int32)), .val (.int (0 : Int32)), .val (.int (2 : Int32)), .val (.int ((47 : Int32).toInt8.toInt32)), .val (.int (2 : Int32))]) rfl k)))))))))))) ?_
  refine Goes.on (T' := T0) (g' := (mkF m 32 #[.val (.ref ya), .val (.int (47 : Int32)), .val (.int (0 : Int32)), .val (.int (2 : Int32)), .val (.int ((47 : Int32).toInt8.toInt32)), .val (.int (2 : Int32))] [(.int (-1 : Int32))])) (fun _ k => XS.goto X0.here hx rfl (pc0 := 28) (pc' := 7) rfl (hb hby d22_28) (by decide) (by decide) (XS.iload X0.here hx rfl (hb hby d22_7) rfl (XS.iloadN X0.here hx rfl (hb hby d22_9) rfl (XS.icmpYes X0.here hx rfl (pc0 := 10) (pc' := 31) rfl (hb hby d22_10) rfl (XT.ii_ge_t (by decide)) (by decide) (by decide) (XS.iconst X0.here hx rfl (hb hby d22_31) k))))) ?_
  exact Goes.retI X0 hx hlk hret (hb hby d22_32) (by decide) (by decide) ⟨rfl, N0, e0⟩
set_option maxRecDepth 65536 in
set_option maxHeartbeats 40000000 in
theorem rmIl247_2 (l : Launch) (Z : State) (a0 : Array Value) (hw : ∀ d ∈ tables_1, d.before a0 Z = true) (ya : Addr) (u0 u1 : Int32)  (h0 : Heap) (n0 : Nat) (Z0 : n0 ≤ h0.size) (BA : Arf Z h0 ya .byte Value.int 2 (fun i => ([u0, u1] : List Int32).getD i 0)) (g0 : ¬ u0 = (47 : Int32).toInt8.toInt32) (g1 : ¬ u1 = (47 : Int32).toInt8.toInt32) :
    Pays l Z (⟨"java/lang/StringLatin1", "indexOf", "([BIII)I"⟩ : MethodName) jdk_43_method_22_code 4 (some .int) [] ({ frames := 1, cells := 0, slots := 0, locals := 17 } : Room) #[(.ref ya), (.int (47 : Int32)), (.int (0 : Int32)), (.int (2 : Int32))] h0 (fun v h L => v = some (.int (-1 : Int32)) ∧ Fr n0 L ∧ h = h0) := by
  refine Pays.walk (plainFor_of_name pn_2) (fun m => ef_4 m ya (47 : Int32) (0 : Int32) (2 : Int32) ) ?_
  intro p e s m below meth c T0 X0 hx hby hml hown hnm hZ e0 hret hlk
  have N0 := Fr.nil n0
  refine Goes.on (T' := T0) (g' := (mkF m 1 #[.val (.ref ya), .val (.int (47 : Int32)), .val (.int (0 : Int32)), .val (.int (2 : Int32))] [(.int (47 : Int32))])) (fun _ k => XS.iloadN X0.here hx rfl (hb hby d18_0) rfl k) ?_
  refine Goes.callS X0 hx hZ 0 hown (own_w hw 91 rfl) (own_w hw 92 rfl) (own_w hw 60 rfl) (own_w hw 93 rfl) (by decide) e0 (rmCE47 l Z a0 hw h0 n0 Z0) (by decide) (by decide) (by decide) (by decide) rfl (by rw [hml]; rfl) (argsL := [(.int (47 : Int32))]) (rest := []) rfl (lenOf pd_1 rfl) rfl (by show 2 * 0 + _ ≤ _; exact Nat.le_of_eq rfl) (hb hby d18_1) ?_
  intro v1 T1 L1 X1 hQ1
  obtain ⟨rfl, N1q, e1⟩ := hQ1
  have N1 := Fr.app N0 N1q
  show Goes p e below _ T1 (mkF m 4 #[.val (.ref ya), .val (.int (47 : Int32)), .val (.int (0 : Int32)), .val (.int (2 : Int32))] [(.int (1 : Int32))])
  refine Goes.on (T' := T1) (g' := (mkF m 11 #[.val (.ref ya), .val (.int (47 : Int32)), .val (.int (0 : Int32)), .val (.int (2 : Int32))] [(.int (0 : Int32)), (.int (0 : Int32))])) (fun _ k => XS.ifYes X1.here hx rfl (pc0 := 4) (pc' := 9) rfl (hb hby d18_4) rfl (XT.i0_ne_t (by decide)) (by decide) (by decide) (XS.iloadN X1.here hx rfl (hb hby d18_9) rfl (XS.iconst X1.here hx rfl (hb hby d18_10) k))) ?_
  refine Goes.callS X1 hx hZ 0 hown (own_w hw 94 rfl) (own_w hw 95 rfl) (own_w hw 96 rfl) (own_w hw 97 rfl) (by decide) e1 (rmMx l Z a0 hw h0 n0 Z0) (by decide) (by decide) (by decide) (by decide) rfl (by rw [hml]; rfl) (argsL := [(.int (0 : Int32)), (.int (0 : Int32))]) (rest := []) rfl (lenOf pd_2 rfl) rfl (by show 2 * 0 + _ ≤ _; exact Nat.le_of_eq rfl) (hb hby d18_11) ?_
  intro v2 T2 L2 X2 hQ2
  obtain ⟨rfl, N2q, e2⟩ := hQ2
  have N2 := Fr.app N1 N2q
  show Goes p e below _ T2 (mkF m 14 #[.val (.ref ya), .val (.int (47 : Int32)), .val (.int (0 : Int32)), .val (.int (2 : Int32))] [(.int (0 : Int32))])
  refine Goes.on (T' := T2) (g' := (mkF m 18 #[.val (.ref ya), .val (.int (47 : Int32)), .val (.int (0 : Int32)), .val (.int (2 : Int32))] [(.int (2 : Int32)), (.int (2 : Int32))])) (fun _ k => XS.istoreN X2.here hx rfl (hb hby d18_14) rfl (l' := #[.val (.ref ya), .val (.int (47 : Int32)), .val (.int (0 : Int32)), .val (.int (2 : Int32))]) rfl (XS.iloadN X2.here hx rfl (hb hby d18_15) rfl (XS.aloadN X2.here hx rfl (hb hby d18_16) rfl rfl (aLenm X2 hx hZ e2 BA (hb hby d18_17) k)))) ?_
  refine Goes.callS X2 hx hZ 0 hown (own_w hw 98 rfl) (own_w hw 99 rfl) (own_w hw 96 rfl) (own_w hw 100 rfl) (by decide) e2 (rmMn2 l Z a0 hw h0 n0 Z0) (by decide) (by decide) (by decide) (by decide) rfl (by rw [hml]; rfl) (argsL := [(.int (2 : Int32)), (.int (2 : Int32))]) (rest := []) rfl (lenOf pd_2 rfl) rfl (by show 2 * 0 + _ ≤ _; exact Nat.le_of_eq rfl) (hb hby d18_18) ?_
  intro v4 T4 L4 X4 hQ4
  obtain ⟨rfl, N4q, e4⟩ := hQ4
  have N4 := Fr.app N2 N4q
  show Goes p e below _ T4 (mkF m 21 #[.val (.ref ya), .val (.int (47 : Int32)), .val (.int (0 : Int32)), .val (.int (2 : Int32))] [(.int (2 : Int32))])
  refine Goes.on (T' := T4) (g' := (mkF m 33 #[.val (.ref ya), .val (.int (47 : Int32)), .val (.int (0 : Int32)), .val (.int (2 : Int32))] [(.int (2 : Int32)), (.int (0 : Int32)), (.int (47 : Int32)), (.ref ya)])) (fun _ k => XS.istoreN X4.here hx rfl (hb hby d18_21) rfl (l' := #[.val (.ref ya), .val (.int (47 : Int32)), .val (.int (0 : Int32)), .val (.int (2 : Int32))]) rfl (XS.iloadN X4.here hx rfl (hb hby d18_22) rfl (XS.iloadN X4.here hx rfl (hb hby d18_23) rfl (XS.icmpYes X4.here hx rfl (pc0 := 24) (pc' := 29) rfl (hb hby d18_24) rfl (XT.ii_lt_t (by decide)) (by decide) (by decide) (XS.aloadN X4.here hx rfl (hb hby d18_29) rfl rfl (XS.iloadN X4.here hx rfl (hb hby d18_30) rfl (XS.iloadN X4.here hx rfl (hb hby d18_31) rfl (XS.iloadN X4.here hx rfl (hb hby d18_32) rfl k)))))))) ?_
  refine Goes.callS X4 hx hZ 0 hown (own_w hw 101 rfl) (own_w hw 102 rfl) (own_w hw 60 rfl) (own_w hw 103 rfl) (by decide) e4 (rmIc47_2 l Z a0 hw ya u0 u1 h0 n0 Z0 BA g0 g1) (by decide) (by decide) (by decide) (by decide) rfl (by rw [hml]; rfl) (argsL := [(.ref ya), (.int (47 : Int32)), (.int (0 : Int32)), (.int (2 : Int32))]) (rest := []) rfl (lenOf pd_3 rfl) rfl (by show 2 * 0 + _ ≤ _; exact Nat.le_of_eq rfl) (hb hby d18_33) ?_
  intro v5 T5 L5 X5 hQ5
  obtain ⟨rfl, N5q, e5⟩ := hQ5
  have N5 := Fr.app N4 N5q
  show Goes p e below _ T5 (mkF m 36 #[.val (.ref ya), .val (.int (47 : Int32)), .val (.int (0 : Int32)), .val (.int (2 : Int32))] [(.int (-1 : Int32))])
  exact Goes.retI X5 hx hlk hret (hb hby d18_36) (by decide) (by decide) ⟨rfl, N5, e5⟩
set_option maxRecDepth 65536 in
set_option maxHeartbeats 40000000 in
theorem rmI247_2 (l : Launch) (Z : State) (a0 : Array Value) (hw : ∀ d ∈ tables_1, d.before a0 Z = true) (a : Addr) (u0 u1 : Int32)  (h0 : Heap) (n0 : Nat) (Z0 : n0 ≤ h0.size) (O0 : Old Z n0 h0) (cs : Int32) (SC : Sta Z Z.heap "java/lang/String" "COMPACT_STRINGS" "Z" (.int cs)) (hcs : ¬ cs = (0 : Int32)) (ya : Addr) (ka : ClassId) (PA : Str Z h0 a ya ka (Int32.ofNat 2) [Value.int u0, Value.int u1]) (g0 : ¬ u0 = (47 : Int32).toInt8.toInt32) (g1 : ¬ u1 = (47 : Int32).toInt8.toInt32) :
    Pays l Z (⟨"java/lang/String", "indexOf", "(II)I"⟩ : MethodName) jdk_42_method_80_code 3 (some .int) [] ({ frames := 2, cells := 0, slots := 0, locals := 32 } : Room) #[(.ref a), (.int (47 : Int32)), (.int (0 : Int32))] h0 (fun v h L => v = some (.int (-1 : Int32)) ∧ Fr n0 L ∧ h = h0) := by
  refine Pays.walk (plainFor_of_name pn_1) (fun m => ef_5 m a (47 : Int32) (0 : Int32) ) ?_
  intro p e s m below meth c T0 X0 hx hby hml hown hnm hZ e0 hret hlk
  have N0 := Fr.nil n0
  have BA : Arf Z h0 ya .byte Value.int 2 (fun i => ([u0, u1] : List Int32).getD i 0) := Arv.arf PA.2.2.2 (by decide) (own_lt2 rfl rfl)
  refine Goes.on (T' := T0) (g' := (mkF m 1 #[.val (.ref a), .val (.int (47 : Int32)), .val (.int (0 : Int32))] [(.ref a)])) (fun _ k => XS.aloadN X0.here hx rfl (hb hby d14_0) rfl rfl k) ?_
  refine Goes.callV X0 hx hZ 0 hown (own_w hw 73 rfl) (own_w hw 74 rfl) (notFace_of_selects (args := #[]) (mvT hZ (own_w hw 76 rfl))) (own_w hw 76 rfl) (own_w hw 75 rfl) (own_w hw 9 rfl) (own_w hw 77 rfl) (by decide) e0 PA.1 (rmIl_2 l Z a0 hw a u0 u1 h0 n0 Z0 O0 cs SC hcs ya ka PA) (by decide) (by decide) (by decide) (by decide) rfl (by rw [hml]; rfl) (argsL := []) (rest := []) rfl (lenOf pd_4 rfl) rfl (by show 2 * 0 + _ ≤ _; exact Nat.le_of_eq rfl) (hb hby d14_1) ?_
  intro v1 T1 L1 X1 hQ1
  obtain ⟨rfl, N1q, e1⟩ := hQ1
  have N1 := Fr.app N0 N1q
  show Goes p e below _ T1 (mkF m 4 #[.val (.ref a), .val (.int (47 : Int32)), .val (.int (0 : Int32))] [(.int (1 : Int32))])
  refine Goes.on (T' := T1) (g' := (mkF m 8 #[.val (.ref a), .val (.int (47 : Int32)), .val (.int (0 : Int32))] [(.ref a)])) (fun _ k => XS.ifNo X1.here hx rfl (hb hby d14_4) rfl (XT.i0_eq_f (by decide)) (XS.aloadN X1.here hx rfl (hb hby d14_7) rfl rfl k)) ?_
  obtain ⟨T2, X2, e2, st2⟩ := getF X1 hx hZ hown (host := "") (Or.inl (own_w hw 35 rfl)) Via.refl e1 PA.2.2.1 (g := (mkF m 8 #[.val (.ref a), .val (.int (47 : Int32)), .val (.int (0 : Int32))] [(.ref a)])) rfl rfl (hb hby d14_8)
  refine Goes.on (T' := T2) (g' := (mkF m 14 #[.val (.ref a), .val (.int (47 : Int32)), .val (.int (0 : Int32))] [(.ref a), (.int (0 : Int32)), (.int (47 : Int32)), (.ref ya)])) (fun _ k => st2 _ (XS.iloadN X2.here hx rfl (hb hby d14_11) rfl (XS.iloadN X2.here hx rfl (hb hby d14_12) rfl (XS.aloadN X2.here hx rfl (hb hby d14_13) rfl rfl k)))) ?_
  refine Goes.callV X2 hx hZ 3 hown (own_w hw 78 rfl) (own_w hw 79 rfl) (notFace_of_selects (args := #[]) (mvT hZ (own_w hw 81 rfl))) (own_w hw 81 rfl) (own_w hw 80 rfl) (own_w hw 9 rfl) (own_w hw 82 rfl) (by decide) e2 PA.1 (rmLn_2 l Z a0 hw a u0 u1 h0 n0 Z0 O0 cs SC hcs ya ka PA) (by decide) (by decide) (by decide) (by decide) rfl (by rw [hml]; rfl) (argsL := []) (rest := [(.int (0 : Int32)), (.int (47 : Int32)), (.ref ya)]) rfl (lenOf pd_5 rfl) rfl (by show 2 * 0 + _ ≤ _; exact Nat.le_of_eq rfl) (hb hby d14_14) ?_
  intro v3 T3 L3 X3 hQ3
  obtain ⟨rfl, N3q, e3⟩ := hQ3
  have N3 := Fr.app N1 N3q
  show Goes p e below _ T3 (mkF m 17 #[.val (.ref a), .val (.int (47 : Int32)), .val (.int (0 : Int32))] [(.int (2 : Int32)), (.int (0 : Int32)), (.int (47 : Int32)), (.ref ya)])
  refine Goes.callS X3 hx hZ 0 hown (own_w hw 88 rfl) (own_w hw 89 rfl) (own_w hw 60 rfl) (own_w hw 90 rfl) (by decide) e3 (rmIl247_2 l Z a0 hw ya u0 u1 h0 n0 Z0 BA g0 g1) (by decide) (by decide) (by decide) (by decide) rfl (by rw [hml]; rfl) (argsL := [(.ref ya), (.int (47 : Int32)), (.int (0 : Int32)), (.int (2 : Int32))]) (rest := []) rfl (lenOf pd_3 rfl) rfl (by show 2 * 0 + _ ≤ _; exact Nat.le_of_eq rfl) (hb hby d14_17) ?_
  intro v4 T4 L4 X4 hQ4
  obtain ⟨rfl, N4q, e4⟩ := hQ4
  have N4 := Fr.app N3 N4q
  show Goes p e below _ T4 (mkF m 20 #[.val (.ref a), .val (.int (47 : Int32)), .val (.int (0 : Int32))] [(.int (-1 : Int32))])
  refine Goes.on (T' := T4) (g' := (mkF m 36 #[.val (.ref a), .val (.int (47 : Int32)), .val (.int (0 : Int32))] [(.int (-1 : Int32))])) (fun _ k => XS.goto X4.here hx rfl (pc0 := 20) (pc' := 36) rfl (hb hby d14_20) (by decide) (by decide) k) ?_
  exact Goes.retI X4 hx hlk hret (hb hby d14_36) (by decide) (by decide) ⟨rfl, N4, e4⟩
set_option maxRecDepth 65536 in
set_option maxHeartbeats 40000000 in
theorem rmIx47_2 (l : Launch) (Z : State) (a0 : Array Value) (hw : ∀ d ∈ tables_1, d.before a0 Z = true) (a : Addr) (u0 u1 : Int32)  (h0 : Heap) (n0 : Nat) (Z0 : n0 ≤ h0.size) (O0 : Old Z n0 h0) (cs : Int32) (SC : Sta Z Z.heap "java/lang/String" "COMPACT_STRINGS" "Z" (.int cs)) (hcs : ¬ cs = (0 : Int32)) (ya : Addr) (ka : ClassId) (PA : Str Z h0 a ya ka (Int32.ofNat 2) [Value.int u0, Value.int u1]) (g0 : ¬ u0 = (47 : Int32).toInt8.toInt32) (g1 : ¬ u1 = (47 : Int32).toInt8.toInt32) :
    Pays l Z (⟨"java/lang/String", "indexOf", "(I)I"⟩ : MethodName) jdk_42_method_79_code 2 (some .int) [] ({ frames := 3, cells := 0, slots := 0, locals := 46 } : Room) #[(.ref a), (.int (47 : Int32))] h0 (fun v h L => v = some (.int (-1 : Int32)) ∧ Fr n0 L ∧ h = h0) := by
  refine Pays.walk (plainFor_of_name pn_1) (fun m => ef_6 m a (47 : Int32) ) ?_
  intro p e s m below meth c T0 X0 hx hby hml hown hnm hZ e0 hret hlk
  have N0 := Fr.nil n0
  have BA : Arf Z h0 ya .byte Value.int 2 (fun i => ([u0, u1] : List Int32).getD i 0) := Arv.arf PA.2.2.2 (by decide) (own_lt2 rfl rfl)
  refine Goes.on (T' := T0) (g' := (mkF m 3 #[.val (.ref a), .val (.int (47 : Int32))] [(.int (0 : Int32)), (.int (47 : Int32)), (.ref a)])) (fun _ k => XS.aloadN X0.here hx rfl (hb hby d13_0) rfl rfl (XS.iloadN X0.here hx rfl (hb hby d13_1) rfl (XS.iconst X0.here hx rfl (hb hby d13_2) k))) ?_
  refine Goes.callV X0 hx hZ 0 hown (own_w hw 68 rfl) (own_w hw 69 rfl) (notFace_of_selects (args := #[]) (mvT hZ (own_w hw 71 rfl))) (own_w hw 71 rfl) (own_w hw 70 rfl) (own_w hw 9 rfl) (own_w hw 72 rfl) (by decide) e0 PA.1 (rmI247_2 l Z a0 hw a u0 u1 h0 n0 Z0 O0 cs SC hcs ya ka PA g0 g1) (by decide) (by decide) (by decide) (by decide) rfl (by rw [hml]; rfl) (argsL := [(.int (47 : Int32)), (.int (0 : Int32))]) (rest := []) rfl (lenOf pd_2 rfl) rfl (by show 2 * 0 + _ ≤ _; exact Nat.le_of_eq rfl) (hb hby d13_3) ?_
  intro v1 T1 L1 X1 hQ1
  obtain ⟨rfl, N1q, e1⟩ := hQ1
  have N1 := Fr.app N0 N1q
  show Goes p e below _ T1 (mkF m 6 #[.val (.ref a), .val (.int (47 : Int32))] [(.int (-1 : Int32))])
  exact Goes.retI X1 hx hlk hret (hb hby d13_6) (by decide) (by decide) ⟨rfl, N1, e1⟩
set_option maxRecDepth 65536 in
set_option maxHeartbeats 40000000 in
theorem rmIc0_2 (l : Launch) (Z : State) (a0 : Array Value) (hw : ∀ d ∈ tables_1, d.before a0 Z = true) (ya : Addr) (u0 u1 : Int32)  (h0 : Heap) (n0 : Nat) (Z0 : n0 ≤ h0.size) (BA : Arf Z h0 ya .byte Value.int 2 (fun i => ([u0, u1] : List Int32).getD i 0)) (g0 : ¬ u0 = (0 : Int32).toInt8.toInt32) (g1 : ¬ u1 = (0 : Int32).toInt8.toInt32) :
    Pays l Z (⟨"java/lang/StringLatin1", "indexOfChar", "([BIII)I"⟩ : MethodName) jdk_43_method_23_code 6 (some .int) [] ({ frames := 0, cells := 0, slots := 0, locals := 0 } : Room) #[(.ref ya), (.int (0 : Int32)), (.int (0 : Int32)), (.int (2 : Int32))] h0 (fun v h L => v = some (.int (-1 : Int32)) ∧ Fr n0 L ∧ h = h0) := by
  refine Pays.walk (plainFor_of_name pn_2) (fun m => ef_3 m ya (0 : Int32) (0 : Int32) (2 : Int32) ) ?_
  intro p e s m below meth c T0 X0 hx hby hml hown hnm hZ e0 hret hlk
  have N0 := Fr.nil n0
  refine Goes.on (T' := T0) (g' := (mkF m 19 #[.val (.ref ya), .val (.int (0 : Int32)), .val (.int (0 : Int32)), .val (.int (2 : Int32)), .val (.int ((0 : Int32).toInt8.toInt32)), .val (.int (0 : Int32))] [(.int ((0 : Int32).toInt8.toInt32)), (.int u0)])) (fun _ k => XS.iloadN X0.here hx rfl (hb hby d22_0) rfl (XS.i2b X0.here hx rfl (hb hby d22_1) rfl (XS.istore X0.here hx rfl (hb hby d22_2) rfl (l' := #[.val (.ref ya), .val (.int (0 : Int32)), .val (.int (0 : Int32)), .val (.int (2 : Int32)), .val (.int ((0 : Int32).toInt8.toInt32)), .unset]) rfl (XS.iloadN X0.here hx rfl (hb hby d22_4) rfl (XS.istore X0.here hx rfl (hb hby d22_5) rfl (l' := #[.val (.ref ya), .val (.int (0 : Int32)), .val (.int (0 : Int32)), .val (.int (2 : Int32)), .val (.int ((0 : Int32).toInt8.toInt32)), .val (.int (0 : Int32))]) rfl (XS.iload X0.here hx rfl (hb hby d22_7) rfl (XS.iloadN X0.here hx rfl (hb hby d22_9) rfl (XS.icmpNo X0.here hx rfl (hb hby d22_10) rfl (XT.ii_ge_f (by decide)) (XS.aloadN X0.here hx rfl (hb hby d22_13) rfl rfl (XS.iload X0.here hx rfl (hb hby d22_14) rfl (ldYm X0 hx hZ e0 BA (by decide) (hb hby d22_16) (XS.iload X0.here hx rfl (hb hby d22_17) rfl k)))))))))))) ?_
  refine Goes.on (T' := T0) (g' := (mkF m 28 #[.val (.ref ya), .val (.int (0 : Int32)), .val (.int (0 : Int32)), .val (.int (2 : Int32)), .val (.int ((0 : Int32).toInt8.toInt32)), .val (.int (2 : Int32))] [])) (fun _ k => XS.icmpYes X0.here hx rfl (pc0 := 19) (pc' := 25) rfl (hb hby d22_19) rfl (XT.ii_ne_t g0) (by decide) (by decide) (XT.iincV X0.here hx rfl (1 : Int32) (hb hby d22_25) (by decide) rfl (l' := #[.val (.ref ya), .val (.int (0 : Int32)), .val (.int (0 : Int32)), .val (.int (2 : Int32)), .val (.int ((0 : Int32).toInt8.toInt32)), .val (.int (1 : Int32))]) rfl (XS.goto X0.here hx rfl (pc0 := 28) (pc' := 7) rfl (hb hby d22_28) (by decide) (by decide) (XS.iload X0.here hx rfl (hb hby d22_7) rfl (XS.iloadN X0.here hx rfl (hb hby d22_9) rfl (XS.icmpNo X0.here hx rfl (hb hby d22_10) rfl (XT.ii_ge_f (by decide)) (XS.aloadN X0.here hx rfl (hb hby d22_13) rfl rfl (XS.iload X0.here hx rfl (hb hby d22_14) rfl (ldYm X0 hx hZ e0 BA (by decide) (hb hby d22_16) (XS.iload X0.here hx rfl (hb hby d22_17) rfl (XS.icmpYes X0.here hx rfl (pc0 := 19) (pc' := 25) rfl (hb hby d22_19) rfl (XT.ii_ne_t g1) (by decide) (by decide) (XT.iincV X0.here hx rfl (1 : Int32) (hb hby d22_25) (by decide) rfl (l' := #[.val (.ref ya), .val (.int (0 : Int32)), .val (.int (0 : Int32)), .val (.int (2 : Int32)), .val (.int ((0 : Int32).toInt8.toInt32)), .val (.int (2 : Int32))]) rfl k)))))))))))) ?_
  refine Goes.on (T' := T0) (g' := (mkF m 32 #[.val (.ref ya), .val (.int (0 : Int32)), .val (.int (0 : Int32)), .val (.int (2 : Int32)), .val (.int ((0 : Int32).toInt8.toInt32)), .val (.int (2 : Int32))] [(.int (-1 : Int32))])) (fun _ k => XS.goto X0.here hx rfl (pc0 := 28) (pc' := 7) rfl (hb hby d22_28) (by decide) (by decide) (XS.iload X0.here hx rfl (hb hby d22_7) rfl (XS.iloadN X0.here hx rfl (hb hby d22_9) rfl (XS.icmpYes X0.here hx rfl (pc0 := 10) (pc' := 31) rfl (hb hby d22_10) rfl (XT.ii_ge_t (by decide)) (by decide) (by decide) (XS.iconst X0.here hx rfl (hb hby d22_31) k))))) ?_
  exact Goes.retI X0 hx hlk hret (hb hby d22_32) (by decide) (by decide) ⟨rfl, N0, e0⟩
set_option maxRecDepth 65536 in
set_option maxHeartbeats 40000000 in
theorem rmIl20_2 (l : Launch) (Z : State) (a0 : Array Value) (hw : ∀ d ∈ tables_1, d.before a0 Z = true) (ya : Addr) (u0 u1 : Int32)  (h0 : Heap) (n0 : Nat) (Z0 : n0 ≤ h0.size) (BA : Arf Z h0 ya .byte Value.int 2 (fun i => ([u0, u1] : List Int32).getD i 0)) (g0 : ¬ u0 = (0 : Int32).toInt8.toInt32) (g1 : ¬ u1 = (0 : Int32).toInt8.toInt32) :
    Pays l Z (⟨"java/lang/StringLatin1", "indexOf", "([BIII)I"⟩ : MethodName) jdk_43_method_22_code 4 (some .int) [] ({ frames := 1, cells := 0, slots := 0, locals := 17 } : Room) #[(.ref ya), (.int (0 : Int32)), (.int (0 : Int32)), (.int (2 : Int32))] h0 (fun v h L => v = some (.int (-1 : Int32)) ∧ Fr n0 L ∧ h = h0) := by
  refine Pays.walk (plainFor_of_name pn_2) (fun m => ef_4 m ya (0 : Int32) (0 : Int32) (2 : Int32) ) ?_
  intro p e s m below meth c T0 X0 hx hby hml hown hnm hZ e0 hret hlk
  have N0 := Fr.nil n0
  refine Goes.on (T' := T0) (g' := (mkF m 1 #[.val (.ref ya), .val (.int (0 : Int32)), .val (.int (0 : Int32)), .val (.int (2 : Int32))] [(.int (0 : Int32))])) (fun _ k => XS.iloadN X0.here hx rfl (hb hby d18_0) rfl k) ?_
  refine Goes.callS X0 hx hZ 0 hown (own_w hw 91 rfl) (own_w hw 92 rfl) (own_w hw 60 rfl) (own_w hw 93 rfl) (by decide) e0 (rmCE0 l Z a0 hw h0 n0 Z0) (by decide) (by decide) (by decide) (by decide) rfl (by rw [hml]; rfl) (argsL := [(.int (0 : Int32))]) (rest := []) rfl (lenOf pd_1 rfl) rfl (by show 2 * 0 + _ ≤ _; exact Nat.le_of_eq rfl) (hb hby d18_1) ?_
  intro v1 T1 L1 X1 hQ1
  obtain ⟨rfl, N1q, e1⟩ := hQ1
  have N1 := Fr.app N0 N1q
  show Goes p e below _ T1 (mkF m 4 #[.val (.ref ya), .val (.int (0 : Int32)), .val (.int (0 : Int32)), .val (.int (2 : Int32))] [(.int (1 : Int32))])
  refine Goes.on (T' := T1) (g' := (mkF m 11 #[.val (.ref ya), .val (.int (0 : Int32)), .val (.int (0 : Int32)), .val (.int (2 : Int32))] [(.int (0 : Int32)), (.int (0 : Int32))])) (fun _ k => XS.ifYes X1.here hx rfl (pc0 := 4) (pc' := 9) rfl (hb hby d18_4) rfl (XT.i0_ne_t (by decide)) (by decide) (by decide) (XS.iloadN X1.here hx rfl (hb hby d18_9) rfl (XS.iconst X1.here hx rfl (hb hby d18_10) k))) ?_
  refine Goes.callS X1 hx hZ 0 hown (own_w hw 94 rfl) (own_w hw 95 rfl) (own_w hw 96 rfl) (own_w hw 97 rfl) (by decide) e1 (rmMx l Z a0 hw h0 n0 Z0) (by decide) (by decide) (by decide) (by decide) rfl (by rw [hml]; rfl) (argsL := [(.int (0 : Int32)), (.int (0 : Int32))]) (rest := []) rfl (lenOf pd_2 rfl) rfl (by show 2 * 0 + _ ≤ _; exact Nat.le_of_eq rfl) (hb hby d18_11) ?_
  intro v2 T2 L2 X2 hQ2
  obtain ⟨rfl, N2q, e2⟩ := hQ2
  have N2 := Fr.app N1 N2q
  show Goes p e below _ T2 (mkF m 14 #[.val (.ref ya), .val (.int (0 : Int32)), .val (.int (0 : Int32)), .val (.int (2 : Int32))] [(.int (0 : Int32))])
  refine Goes.on (T' := T2) (g' := (mkF m 18 #[.val (.ref ya), .val (.int (0 : Int32)), .val (.int (0 : Int32)), .val (.int (2 : Int32))] [(.int (2 : Int32)), (.int (2 : Int32))])) (fun _ k => XS.istoreN X2.here hx rfl (hb hby d18_14) rfl (l' := #[.val (.ref ya), .val (.int (0 : Int32)), .val (.int (0 : Int32)), .val (.int (2 : Int32))]) rfl (XS.iloadN X2.here hx rfl (hb hby d18_15) rfl (XS.aloadN X2.here hx rfl (hb hby d18_16) rfl rfl (aLenm X2 hx hZ e2 BA (hb hby d18_17) k)))) ?_
  refine Goes.callS X2 hx hZ 0 hown (own_w hw 98 rfl) (own_w hw 99 rfl) (own_w hw 96 rfl) (own_w hw 100 rfl) (by decide) e2 (rmMn2 l Z a0 hw h0 n0 Z0) (by decide) (by decide) (by decide) (by decide) rfl (by rw [hml]; rfl) (argsL := [(.int (2 : Int32)), (.int (2 : Int32))]) (rest := []) rfl (lenOf pd_2 rfl) rfl (by show 2 * 0 + _ ≤ _; exact Nat.le_of_eq rfl) (hb hby d18_18) ?_
  intro v4 T4 L4 X4 hQ4
  obtain ⟨rfl, N4q, e4⟩ := hQ4
  have N4 := Fr.app N2 N4q
  show Goes p e below _ T4 (mkF m 21 #[.val (.ref ya), .val (.int (0 : Int32)), .val (.int (0 : Int32)), .val (.int (2 : Int32))] [(.int (2 : Int32))])
  refine Goes.on (T' := T4) (g' := (mkF m 33 #[.val (.ref ya), .val (.int (0 : Int32)), .val (.int (0 : Int32)), .val (.int (2 : Int32))] [(.int (2 : Int32)), (.int (0 : Int32)), (.int (0 : Int32)), (.ref ya)])) (fun _ k => XS.istoreN X4.here hx rfl (hb hby d18_21) rfl (l' := #[.val (.ref ya), .val (.int (0 : Int32)), .val (.int (0 : Int32)), .val (.int (2 : Int32))]) rfl (XS.iloadN X4.here hx rfl (hb hby d18_22) rfl (XS.iloadN X4.here hx rfl (hb hby d18_23) rfl (XS.icmpYes X4.here hx rfl (pc0 := 24) (pc' := 29) rfl (hb hby d18_24) rfl (XT.ii_lt_t (by decide)) (by decide) (by decide) (XS.aloadN X4.here hx rfl (hb hby d18_29) rfl rfl (XS.iloadN X4.here hx rfl (hb hby d18_30) rfl (XS.iloadN X4.here hx rfl (hb hby d18_31) rfl (XS.iloadN X4.here hx rfl (hb hby d18_32) rfl k)))))))) ?_
  refine Goes.callS X4 hx hZ 0 hown (own_w hw 101 rfl) (own_w hw 102 rfl) (own_w hw 60 rfl) (own_w hw 103 rfl) (by decide) e4 (rmIc0_2 l Z a0 hw ya u0 u1 h0 n0 Z0 BA g0 g1) (by decide) (by decide) (by decide) (by decide) rfl (by rw [hml]; rfl) (argsL := [(.ref ya), (.int (0 : Int32)), (.int (0 : Int32)), (.int (2 : Int32))]) (rest := []) rfl (lenOf pd_3 rfl) rfl (by show 2 * 0 + _ ≤ _; exact Nat.le_of_eq rfl) (hb hby d18_33) ?_
  intro v5 T5 L5 X5 hQ5
  obtain ⟨rfl, N5q, e5⟩ := hQ5
  have N5 := Fr.app N4 N5q
  show Goes p e below _ T5 (mkF m 36 #[.val (.ref ya), .val (.int (0 : Int32)), .val (.int (0 : Int32)), .val (.int (2 : Int32))] [(.int (-1 : Int32))])
  exact Goes.retI X5 hx hlk hret (hb hby d18_36) (by decide) (by decide) ⟨rfl, N5, e5⟩
set_option maxRecDepth 65536 in
set_option maxHeartbeats 40000000 in
theorem rmI20_2 (l : Launch) (Z : State) (a0 : Array Value) (hw : ∀ d ∈ tables_1, d.before a0 Z = true) (a : Addr) (u0 u1 : Int32)  (h0 : Heap) (n0 : Nat) (Z0 : n0 ≤ h0.size) (O0 : Old Z n0 h0) (cs : Int32) (SC : Sta Z Z.heap "java/lang/String" "COMPACT_STRINGS" "Z" (.int cs)) (hcs : ¬ cs = (0 : Int32)) (ya : Addr) (ka : ClassId) (PA : Str Z h0 a ya ka (Int32.ofNat 2) [Value.int u0, Value.int u1]) (g0 : ¬ u0 = (0 : Int32).toInt8.toInt32) (g1 : ¬ u1 = (0 : Int32).toInt8.toInt32) :
    Pays l Z (⟨"java/lang/String", "indexOf", "(II)I"⟩ : MethodName) jdk_42_method_80_code 3 (some .int) [] ({ frames := 2, cells := 0, slots := 0, locals := 32 } : Room) #[(.ref a), (.int (0 : Int32)), (.int (0 : Int32))] h0 (fun v h L => v = some (.int (-1 : Int32)) ∧ Fr n0 L ∧ h = h0) := by
  refine Pays.walk (plainFor_of_name pn_1) (fun m => ef_5 m a (0 : Int32) (0 : Int32) ) ?_
  intro p e s m below meth c T0 X0 hx hby hml hown hnm hZ e0 hret hlk
  have N0 := Fr.nil n0
  have BA : Arf Z h0 ya .byte Value.int 2 (fun i => ([u0, u1] : List Int32).getD i 0) := Arv.arf PA.2.2.2 (by decide) (own_lt2 rfl rfl)
  refine Goes.on (T' := T0) (g' := (mkF m 1 #[.val (.ref a), .val (.int (0 : Int32)), .val (.int (0 : Int32))] [(.ref a)])) (fun _ k => XS.aloadN X0.here hx rfl (hb hby d14_0) rfl rfl k) ?_
  refine Goes.callV X0 hx hZ 0 hown (own_w hw 73 rfl) (own_w hw 74 rfl) (notFace_of_selects (args := #[]) (mvT hZ (own_w hw 76 rfl))) (own_w hw 76 rfl) (own_w hw 75 rfl) (own_w hw 9 rfl) (own_w hw 77 rfl) (by decide) e0 PA.1 (rmIl_2 l Z a0 hw a u0 u1 h0 n0 Z0 O0 cs SC hcs ya ka PA) (by decide) (by decide) (by decide) (by decide) rfl (by rw [hml]; rfl) (argsL := []) (rest := []) rfl (lenOf pd_4 rfl) rfl (by show 2 * 0 + _ ≤ _; exact Nat.le_of_eq rfl) (hb hby d14_1) ?_
  intro v1 T1 L1 X1 hQ1
  obtain ⟨rfl, N1q, e1⟩ := hQ1
  have N1 := Fr.app N0 N1q
  show Goes p e below _ T1 (mkF m 4 #[.val (.ref a), .val (.int (0 : Int32)), .val (.int (0 : Int32))] [(.int (1 : Int32))])
  refine Goes.on (T' := T1) (g' := (mkF m 8 #[.val (.ref a), .val (.int (0 : Int32)), .val (.int (0 : Int32))] [(.ref a)])) (fun _ k => XS.ifNo X1.here hx rfl (hb hby d14_4) rfl (XT.i0_eq_f (by decide)) (XS.aloadN X1.here hx rfl (hb hby d14_7) rfl rfl k)) ?_
  obtain ⟨T2, X2, e2, st2⟩ := getF X1 hx hZ hown (host := "") (Or.inl (own_w hw 35 rfl)) Via.refl e1 PA.2.2.1 (g := (mkF m 8 #[.val (.ref a), .val (.int (0 : Int32)), .val (.int (0 : Int32))] [(.ref a)])) rfl rfl (hb hby d14_8)
  refine Goes.on (T' := T2) (g' := (mkF m 14 #[.val (.ref a), .val (.int (0 : Int32)), .val (.int (0 : Int32))] [(.ref a), (.int (0 : Int32)), (.int (0 : Int32)), (.ref ya)])) (fun _ k => st2 _ (XS.iloadN X2.here hx rfl (hb hby d14_11) rfl (XS.iloadN X2.here hx rfl (hb hby d14_12) rfl (XS.aloadN X2.here hx rfl (hb hby d14_13) rfl rfl k)))) ?_
  refine Goes.callV X2 hx hZ 3 hown (own_w hw 78 rfl) (own_w hw 79 rfl) (notFace_of_selects (args := #[]) (mvT hZ (own_w hw 81 rfl))) (own_w hw 81 rfl) (own_w hw 80 rfl) (own_w hw 9 rfl) (own_w hw 82 rfl) (by decide) e2 PA.1 (rmLn_2 l Z a0 hw a u0 u1 h0 n0 Z0 O0 cs SC hcs ya ka PA) (by decide) (by decide) (by decide) (by decide) rfl (by rw [hml]; rfl) (argsL := []) (rest := [(.int (0 : Int32)), (.int (0 : Int32)), (.ref ya)]) rfl (lenOf pd_5 rfl) rfl (by show 2 * 0 + _ ≤ _; exact Nat.le_of_eq rfl) (hb hby d14_14) ?_
  intro v3 T3 L3 X3 hQ3
  obtain ⟨rfl, N3q, e3⟩ := hQ3
  have N3 := Fr.app N1 N3q
  show Goes p e below _ T3 (mkF m 17 #[.val (.ref a), .val (.int (0 : Int32)), .val (.int (0 : Int32))] [(.int (2 : Int32)), (.int (0 : Int32)), (.int (0 : Int32)), (.ref ya)])
  refine Goes.callS X3 hx hZ 0 hown (own_w hw 88 rfl) (own_w hw 89 rfl) (own_w hw 60 rfl) (own_w hw 90 rfl) (by decide) e3 (rmIl20_2 l Z a0 hw ya u0 u1 h0 n0 Z0 BA g0 g1) (by decide) (by decide) (by decide) (by decide) rfl (by rw [hml]; rfl) (argsL := [(.ref ya), (.int (0 : Int32)), (.int (0 : Int32)), (.int (2 : Int32))]) (rest := []) rfl (lenOf pd_3 rfl) rfl (by show 2 * 0 + _ ≤ _; exact Nat.le_of_eq rfl) (hb hby d14_17) ?_
  intro v4 T4 L4 X4 hQ4
  obtain ⟨rfl, N4q, e4⟩ := hQ4
  have N4 := Fr.app N3 N4q
  show Goes p e below _ T4 (mkF m 20 #[.val (.ref a), .val (.int (0 : Int32)), .val (.int (0 : Int32))] [(.int (-1 : Int32))])
  refine Goes.on (T' := T4) (g' := (mkF m 36 #[.val (.ref a), .val (.int (0 : Int32)), .val (.int (0 : Int32))] [(.int (-1 : Int32))])) (fun _ k => XS.goto X4.here hx rfl (pc0 := 20) (pc' := 36) rfl (hb hby d14_20) (by decide) (by decide) k) ?_
  exact Goes.retI X4 hx hlk hret (hb hby d14_36) (by decide) (by decide) ⟨rfl, N4, e4⟩
set_option maxRecDepth 65536 in
set_option maxHeartbeats 40000000 in
theorem rmIx0_2 (l : Launch) (Z : State) (a0 : Array Value) (hw : ∀ d ∈ tables_1, d.before a0 Z = true) (a : Addr) (u0 u1 : Int32)  (h0 : Heap) (n0 : Nat) (Z0 : n0 ≤ h0.size) (O0 : Old Z n0 h0) (cs : Int32) (SC : Sta Z Z.heap "java/lang/String" "COMPACT_STRINGS" "Z" (.int cs)) (hcs : ¬ cs = (0 : Int32)) (ya : Addr) (ka : ClassId) (PA : Str Z h0 a ya ka (Int32.ofNat 2) [Value.int u0, Value.int u1]) (g0 : ¬ u0 = (0 : Int32).toInt8.toInt32) (g1 : ¬ u1 = (0 : Int32).toInt8.toInt32) :
    Pays l Z (⟨"java/lang/String", "indexOf", "(I)I"⟩ : MethodName) jdk_42_method_79_code 2 (some .int) [] ({ frames := 3, cells := 0, slots := 0, locals := 46 } : Room) #[(.ref a), (.int (0 : Int32))] h0 (fun v h L => v = some (.int (-1 : Int32)) ∧ Fr n0 L ∧ h = h0) := by
  refine Pays.walk (plainFor_of_name pn_1) (fun m => ef_6 m a (0 : Int32) ) ?_
  intro p e s m below meth c T0 X0 hx hby hml hown hnm hZ e0 hret hlk
  have N0 := Fr.nil n0
  have BA : Arf Z h0 ya .byte Value.int 2 (fun i => ([u0, u1] : List Int32).getD i 0) := Arv.arf PA.2.2.2 (by decide) (own_lt2 rfl rfl)
  refine Goes.on (T' := T0) (g' := (mkF m 3 #[.val (.ref a), .val (.int (0 : Int32))] [(.int (0 : Int32)), (.int (0 : Int32)), (.ref a)])) (fun _ k => XS.aloadN X0.here hx rfl (hb hby d13_0) rfl rfl (XS.iloadN X0.here hx rfl (hb hby d13_1) rfl (XS.iconst X0.here hx rfl (hb hby d13_2) k))) ?_
  refine Goes.callV X0 hx hZ 0 hown (own_w hw 68 rfl) (own_w hw 69 rfl) (notFace_of_selects (args := #[]) (mvT hZ (own_w hw 71 rfl))) (own_w hw 71 rfl) (own_w hw 70 rfl) (own_w hw 9 rfl) (own_w hw 72 rfl) (by decide) e0 PA.1 (rmI20_2 l Z a0 hw a u0 u1 h0 n0 Z0 O0 cs SC hcs ya ka PA g0 g1) (by decide) (by decide) (by decide) (by decide) rfl (by rw [hml]; rfl) (argsL := [(.int (0 : Int32)), (.int (0 : Int32))]) (rest := []) rfl (lenOf pd_2 rfl) rfl (by show 2 * 0 + _ ≤ _; exact Nat.le_of_eq rfl) (hb hby d13_3) ?_
  intro v1 T1 L1 X1 hQ1
  obtain ⟨rfl, N1q, e1⟩ := hQ1
  have N1 := Fr.app N0 N1q
  show Goes p e below _ T1 (mkF m 6 #[.val (.ref a), .val (.int (0 : Int32))] [(.int (-1 : Int32))])
  exact Goes.retI X1 hx hlk hret (hb hby d13_6) (by decide) (by decide) ⟨rfl, N1, e1⟩
set_option maxRecDepth 65536 in
set_option maxHeartbeats 40000000 in
theorem rmLed1_2 (l : Launch) (Z : State) (a0 : Array Value) (hw : ∀ d ∈ tables_1, d.before a0 Z = true) (a b : Addr) (u0 u1 : Int32)  (h0 : Heap) (n0 : Nat) (Z0 : n0 ≤ h0.size) (B0 : Arf Z h0 a .byte Value.int 2 (fun i => ([u0, u1] : List Int32).getD i 0)) (B1 : Arf Z h0 b .byte Value.int 1 (fun i => ([(46 : Int32)] : List Int32).getD i 0)) (z : Int32) (hz : z = 0 ∨ z = 1) (hP : z = 1 ↔ False) :
    Pays l Z (⟨"java/lang/StringLatin1", "equals", "([B[B)Z"⟩ : MethodName) jdk_43_method_13_code 3 (some .boolean) [] ({ frames := 0, cells := 0, slots := 0, locals := 0 } : Room) #[(.ref a), (.ref b)] h0 (fun v h L => v = some (.int z) ∧ Fr n0 L ∧ h = h0) := by
  refine Pays.walk (plainFor_of_name pn_2) (fun m => ef_7 m a b ) ?_
  intro p e s m below meth c T0 X0 hx hby hml hown hnm hZ e0 hret hlk
  have N0 := Fr.nil n0
  refine Goes.on (T' := T0) (g' := (mkF m 35 #[.val (.ref a), .val (.ref b), .unset] [(.int (0 : Int32))])) (fun _ k => XS.aloadN X0.here hx rfl (hb hby d12_0) rfl rfl (aLenm X0 hx hZ e0 B0 (hb hby d12_1) (XS.aloadN X0.here hx rfl (hb hby d12_2) rfl rfl (aLenm X0 hx hZ e0 B1 (hb hby d12_3) (XS.icmpYes X0.here hx rfl (pc0 := 4) (pc' := 34) rfl (hb hby d12_4) rfl (XT.ii_ne_t (by decide)) (by decide) (by decide) (XS.iconst X0.here hx rfl (hb hby d12_34) k)))))) ?_
  exact Goes.retB X0 hx hlk hret (Or.inl rfl) (hb hby d12_35) (by decide) (by decide) ⟨own_is0 hz hP (fun q => q), N0, e0⟩
set_option maxRecDepth 65536 in
set_option maxHeartbeats 40000000 in
theorem rmEqd1_2 (l : Launch) (Z : State) (a0 : Array Value) (hw : ∀ d ∈ tables_1, d.before a0 Z = true) (a b : Addr) (u0 u1 : Int32)  (h0 : Heap) (n0 : Nat) (Z0 : n0 ≤ h0.size) (O0 : Old Z n0 h0) (cs : Int32) (SC : Sta Z Z.heap "java/lang/String" "COMPACT_STRINGS" "Z" (.int cs)) (hcs : ¬ cs = (0 : Int32)) (ya yb : Addr) (ka kb : ClassId) (PA : Str Z h0 a ya ka (Int32.ofNat 2) [Value.int u0, Value.int u1]) (PB : Str Z h0 b yb kb (Int32.ofNat 1) [Value.int (46 : Int32)]) (z : Int32) (hz : z = 0 ∨ z = 1) (hP : z = 1 ↔ False) :
    Pays l Z (⟨"java/lang/String", "equals", "(Ljava/lang/Object;)Z"⟩ : MethodName) jdk_42_method_66_code 3 (some .boolean) [] ({ frames := 1, cells := 0, slots := 0, locals := 14 } : Room) #[(.ref a), (.ref b)] h0 (fun v h L => v = some (.int z) ∧ Fr n0 L ∧ h = h0) := by
  refine Pays.walk (plainFor_of_name pn_1) (fun m => ef_7 m a b ) ?_
  intro p e s m below meth c T0 X0 hx hby hml hown hnm hZ e0 hret hlk
  have N0 := Fr.nil n0
  have BA : Arf Z h0 ya .byte Value.int 2 (fun i => ([u0, u1] : List Int32).getD i 0) := Arv.arf PA.2.2.2 (by decide) (own_lt2 rfl rfl)
  have BB : Arf Z h0 yb .byte Value.int 1 (fun i => ([(46 : Int32)] : List Int32).getD i 0) := Arv.arf PB.2.2.2 (by decide) (own_lt1 rfl)
  refine Goes.on (T' := T0) (g' := (mkF m 2 #[.val (.ref a), .val (.ref b), .unset] [(.ref b), (.ref a)])) (fun _ k => XS.aloadN X0.here hx rfl (hb hby d11_0) rfl rfl (XS.aloadN X0.here hx rfl (hb hby d11_1) rfl rfl k)) ?_
  by_cases hc1 : ((.ref a) : Value) = (.ref b)
  · refine Goes.on (T' := T0) (g' := (mkF m 6 #[.val (.ref a), .val (.ref b), .unset] [(.int (1 : Int32))])) (fun _ k => XT.acmpNo X0.here hx rfl (hb hby d11_2) rfl rfl rfl (XT.aa_ne_f hc1) (XS.iconst X0.here hx rfl (hb hby d11_5) k)) ?_
    exact Goes.retB X0 hx hlk hret (Or.inr rfl) (hb hby d11_6) (by decide) (by decide) ⟨own_is1 hP (absurd (own_same PA PB (Value.ref.inj hc1) (n := 2) (by decide)).1 (by decide)), N0, e0⟩
  · refine Goes.on (T' := T0) (g' := (mkF m 8 #[.val (.ref a), .val (.ref b), .unset] [(.ref b)])) (fun _ k => XT.acmpYes X0.here hx rfl (pc0 := 2) (pc' := 7) rfl (hb hby d11_2) rfl rfl rfl (XT.aa_ne_t hc1) (by decide) (by decide) (XS.aloadN X0.here hx rfl (hb hby d11_7) rfl rfl k)) ?_
    obtain ⟨T2, X2, e2, st2⟩ := instY X0 hx hZ hown (own_w hw 57 rfl) e0 (Ins.self PB.1) (g := (mkF m 8 #[.val (.ref a), .val (.ref b), .unset] [(.ref b)])) rfl rfl (hb hby d11_8)
    refine Goes.on (T' := T2) (g' := (mkF m 15 #[.val (.ref a), .val (.ref b), .unset] [(.ref b)])) (fun _ k => st2 _ (XS.ifNo X2.here hx rfl (hb hby d11_11) rfl (XT.i0_eq_f (by decide)) (XS.aloadN X2.here hx rfl (hb hby d11_14) rfl rfl k))) ?_
    obtain ⟨T3, X3, e3, st3⟩ := castY X2 hx hZ hown (own_w hw 57 rfl) e2 (Ins.self PB.1) (g := (mkF m 15 #[.val (.ref a), .val (.ref b), .unset] [(.ref b)])) rfl rfl (hb hby d11_15)
    refine Goes.on (T' := T3) (g' := (mkF m 19 #[.val (.ref a), .val (.ref b), .val (.ref b)] [])) (fun _ k => st3 _ (XS.astoreN X3.here hx rfl (hb hby d11_18) rfl rfl (l' := #[.val (.ref a), .val (.ref b), .val (.ref b)]) rfl k)) ?_
    obtain ⟨T4, X4, e4, st4⟩ := getS (host := "") X3 hx hZ hown (own_w hw 21 rfl) Via.refl e3 (Sta.ext O0.2 SC) (g := (mkF m 19 #[.val (.ref a), .val (.ref b), .val (.ref b)] [])) rfl (hb hby d11_19)
    refine Goes.on (T' := T4) (g' := (mkF m 26 #[.val (.ref a), .val (.ref b), .val (.ref b)] [(.ref a)])) (fun _ k => st4 _ (XS.ifNo X4.here hx rfl (hb hby d11_22) rfl (XT.i0_eq_f hcs) (XS.aloadN X4.here hx rfl (hb hby d11_25) rfl rfl k))) ?_
    obtain ⟨T5, X5, e5, st5⟩ := getF X4 hx hZ hown (host := "") (Or.inl (own_w hw 33 rfl)) Via.refl e4 PA.2.1 (g := (mkF m 26 #[.val (.ref a), .val (.ref b), .val (.ref b)] [(.ref a)])) rfl rfl (hb hby d11_26)
    refine Goes.on (T' := T5) (g' := (mkF m 30 #[.val (.ref a), .val (.ref b), .val (.ref b)] [(.ref b), (.int (0 : Int32))])) (fun _ k => st5 _ (XS.aloadN X5.here hx rfl (hb hby d11_29) rfl rfl k)) ?_
    obtain ⟨T6, X6, e6, st6⟩ := getF X5 hx hZ hown (host := "") (Or.inl (own_w hw 33 rfl)) Via.refl e5 PB.2.1 (g := (mkF m 30 #[.val (.ref a), .val (.ref b), .val (.ref b)] [(.ref b), (.int (0 : Int32))])) rfl rfl (hb hby d11_30)
    refine Goes.on (T' := T6) (g' := (mkF m 37 #[.val (.ref a), .val (.ref b), .val (.ref b)] [(.ref a)])) (fun _ k => st6 _ (XS.icmpNo X6.here hx rfl (hb hby d11_33) rfl (XT.ii_ne_f (by decide)) (XS.aloadN X6.here hx rfl (hb hby d11_36) rfl rfl k))) ?_
    obtain ⟨T7, X7, e7, st7⟩ := getF X6 hx hZ hown (host := "") (Or.inl (own_w hw 35 rfl)) Via.refl e6 PA.2.2.1 (g := (mkF m 37 #[.val (.ref a), .val (.ref b), .val (.ref b)] [(.ref a)])) rfl rfl (hb hby d11_37)
    refine Goes.on (T' := T7) (g' := (mkF m 41 #[.val (.ref a), .val (.ref b), .val (.ref b)] [(.ref b), (.ref ya)])) (fun _ k => st7 _ (XS.aloadN X7.here hx rfl (hb hby d11_40) rfl rfl k)) ?_
    obtain ⟨T8, X8, e8, st8⟩ := getF X7 hx hZ hown (host := "") (Or.inl (own_w hw 35 rfl)) Via.refl e7 PB.2.2.1 (g := (mkF m 41 #[.val (.ref a), .val (.ref b), .val (.ref b)] [(.ref b), (.ref ya)])) rfl rfl (hb hby d11_41)
    refine Goes.on (T' := T8) (g' := (mkF m 44 #[.val (.ref a), .val (.ref b), .val (.ref b)] [(.ref yb), (.ref ya)])) (fun _ k => st8 _ k) ?_
    refine Goes.callS X8 hx hZ 0 hown (own_w hw 58 rfl) (own_w hw 59 rfl) (own_w hw 60 rfl) (own_w hw 61 rfl) (by decide) e8 (rmLed1_2 l Z a0 hw ya yb u0 u1 h0 n0 Z0 BA BB z hz hP) (by decide) (by decide) (by decide) (by decide) rfl (by rw [hml]; rfl) (argsL := [(.ref ya), (.ref yb)]) (rest := []) rfl (lenOf pd_6 rfl) rfl (by show 2 * 0 + _ ≤ _; exact Nat.le_of_eq rfl) (hb hby d11_44) ?_
    intro v9 T9 L9 X9 hQ9
    obtain ⟨rfl, N9q, e9⟩ := hQ9
    have N9 := Fr.app N0 N9q
    show Goes p e below _ T9 (mkF m 47 #[.val (.ref a), .val (.ref b), .val (.ref b)] [(.int z)])
    by_cases hc10 : z = (0 : Int32)
    · refine Goes.on (T' := T9) (g' := (mkF m 55 #[.val (.ref a), .val (.ref b), .val (.ref b)] [(.int (0 : Int32))])) (fun _ k => XS.ifYes X9.here hx rfl (pc0 := 47) (pc' := 54) rfl (hb hby d11_47) rfl (XT.i0_eq_t hc10) (by decide) (by decide) (XS.iconst X9.here hx rfl (hb hby d11_54) k)) ?_
      exact Goes.retB X9 hx hlk hret (Or.inl rfl) (hb hby d11_55) (by decide) (by decide) ⟨own_z hc10, N9, e9⟩
    · refine Goes.on (T' := T9) (g' := (mkF m 55 #[.val (.ref a), .val (.ref b), .val (.ref b)] [(.int (1 : Int32))])) (fun _ k => XS.ifNo X9.here hx rfl (hb hby d11_47) rfl (XT.i0_eq_f hc10) (XS.iconst X9.here hx rfl (hb hby d11_50) (XS.goto X9.here hx rfl (pc0 := 51) (pc' := 55) rfl (hb hby d11_51) (by decide) (by decide) k))) ?_
      exact Goes.retB X9 hx hlk hret (Or.inr rfl) (hb hby d11_55) (by decide) (by decide) ⟨own_nz hz hc10, N9, e9⟩
set_option maxRecDepth 65536 in
set_option maxHeartbeats 40000000 in
theorem rmLed2_2 (l : Launch) (Z : State) (a0 : Array Value) (hw : ∀ d ∈ tables_1, d.before a0 Z = true) (a b : Addr) (u0 u1 : Int32)  (h0 : Heap) (n0 : Nat) (Z0 : n0 ≤ h0.size) (B0 : Arf Z h0 a .byte Value.int 2 (fun i => ([u0, u1] : List Int32).getD i 0)) (B1 : Arf Z h0 b .byte Value.int 2 (fun i => ([(46 : Int32), (46 : Int32)] : List Int32).getD i 0)) (z : Int32) (hz : z = 0 ∨ z = 1) (hP : z = 1 ↔ u0 = (46 : Int32) ∧ u1 = (46 : Int32)) :
    Pays l Z (⟨"java/lang/StringLatin1", "equals", "([B[B)Z"⟩ : MethodName) jdk_43_method_13_code 3 (some .boolean) [] ({ frames := 0, cells := 0, slots := 0, locals := 0 } : Room) #[(.ref a), (.ref b)] h0 (fun v h L => v = some (.int z) ∧ Fr n0 L ∧ h = h0) := by
  refine Pays.walk (plainFor_of_name pn_2) (fun m => ef_7 m a b ) ?_
  intro p e s m below meth c T0 X0 hx hby hml hown hnm hZ e0 hret hlk
  have N0 := Fr.nil n0
  refine Goes.on (T' := T0) (g' := (mkF m 16 #[.val (.ref a), .val (.ref b), .val (.int (0 : Int32))] [(.ref a)])) (fun _ k => XS.aloadN X0.here hx rfl (hb hby d12_0) rfl rfl (aLenm X0 hx hZ e0 B0 (hb hby d12_1) (XS.aloadN X0.here hx rfl (hb hby d12_2) rfl rfl (aLenm X0 hx hZ e0 B1 (hb hby d12_3) (XS.icmpNo X0.here hx rfl (hb hby d12_4) rfl (XT.ii_ne_f (by decide)) (XS.iconst X0.here hx rfl (hb hby d12_7) (XS.istoreN X0.here hx rfl (hb hby d12_8) rfl (l' := #[.val (.ref a), .val (.ref b), .val (.int (0 : Int32))]) rfl (XS.iloadN X0.here hx rfl (hb hby d12_9) rfl (XS.aloadN X0.here hx rfl (hb hby d12_10) rfl rfl (aLenm X0 hx hZ e0 B0 (hb hby d12_11) (XS.icmpNo X0.here hx rfl (hb hby d12_12) rfl (XT.ii_ge_f (by decide)) (XS.aloadN X0.here hx rfl (hb hby d12_15) rfl rfl k)))))))))))) ?_
  refine Goes.on (T' := T0) (g' := (mkF m 21 #[.val (.ref a), .val (.ref b), .val (.int (0 : Int32))] [(.int (46 : Int32)), (.int u0)])) (fun _ k => XS.iloadN X0.here hx rfl (hb hby d12_16) rfl (ldYm X0 hx hZ e0 B0 (by decide) (hb hby d12_17) (XS.aloadN X0.here hx rfl (hb hby d12_18) rfl rfl (XS.iloadN X0.here hx rfl (hb hby d12_19) rfl (ldYm X0 hx hZ e0 B1 (by decide) (hb hby d12_20) k))))) ?_
  by_cases hc6 : u0 = (46 : Int32)
  · refine Goes.on (T' := T0) (g' := (mkF m 20 #[.val (.ref a), .val (.ref b), .val (.int (1 : Int32))] [(.int (1 : Int32)), (.ref b), (.int u1)])) (fun _ k => XS.icmpYes X0.here hx rfl (pc0 := 21) (pc' := 26) rfl (hb hby d12_21) rfl (XT.ii_eq_t hc6) (by decide) (by decide) (XT.iincV X0.here hx rfl (1 : Int32) (hb hby d12_26) (by decide) rfl (l' := #[.val (.ref a), .val (.ref b), .val (.int (1 : Int32))]) rfl (XS.goto X0.here hx rfl (pc0 := 29) (pc' := 9) rfl (hb hby d12_29) (by decide) (by decide) (XS.iloadN X0.here hx rfl (hb hby d12_9) rfl (XS.aloadN X0.here hx rfl (hb hby d12_10) rfl rfl (aLenm X0 hx hZ e0 B0 (hb hby d12_11) (XS.icmpNo X0.here hx rfl (hb hby d12_12) rfl (XT.ii_ge_f (by decide)) (XS.aloadN X0.here hx rfl (hb hby d12_15) rfl rfl (XS.iloadN X0.here hx rfl (hb hby d12_16) rfl (ldYm X0 hx hZ e0 B0 (by decide) (hb hby d12_17) (XS.aloadN X0.here hx rfl (hb hby d12_18) rfl rfl (XS.iloadN X0.here hx rfl (hb hby d12_19) rfl k)))))))))))) ?_
    refine Goes.on (T' := T0) (g' := (mkF m 21 #[.val (.ref a), .val (.ref b), .val (.int (1 : Int32))] [(.int (46 : Int32)), (.int u1)])) (fun _ k => ldYm X0 hx hZ e0 B1 (by decide) (hb hby d12_20) k) ?_
    by_cases hc10 : u1 = (46 : Int32)
    · refine Goes.on (T' := T0) (g' := (mkF m 33 #[.val (.ref a), .val (.ref b), .val (.int (2 : Int32))] [(.int (1 : Int32))])) (fun _ k => XS.icmpYes X0.here hx rfl (pc0 := 21) (pc' := 26) rfl (hb hby d12_21) rfl (XT.ii_eq_t hc10) (by decide) (by decide) (XT.iincV X0.here hx rfl (1 : Int32) (hb hby d12_26) (by decide) rfl (l' := #[.val (.ref a), .val (.ref b), .val (.int (2 : Int32))]) rfl (XS.goto X0.here hx rfl (pc0 := 29) (pc' := 9) rfl (hb hby d12_29) (by decide) (by decide) (XS.iloadN X0.here hx rfl (hb hby d12_9) rfl (XS.aloadN X0.here hx rfl (hb hby d12_10) rfl rfl (aLenm X0 hx hZ e0 B0 (hb hby d12_11) (XS.icmpYes X0.here hx rfl (pc0 := 12) (pc' := 32) rfl (hb hby d12_12) rfl (XT.ii_ge_t (by decide)) (by decide) (by decide) (XS.iconst X0.here hx rfl (hb hby d12_32) k)))))))) ?_
      exact Goes.retB X0 hx hlk hret (Or.inr rfl) (hb hby d12_33) (by decide) (by decide) ⟨own_is1 hP ⟨hc6, hc10⟩, N0, e0⟩
    · refine Goes.on (T' := T0) (g' := (mkF m 25 #[.val (.ref a), .val (.ref b), .val (.int (1 : Int32))] [(.int (0 : Int32))])) (fun _ k => XS.icmpNo X0.here hx rfl (hb hby d12_21) rfl (XT.ii_eq_f hc10) (XS.iconst X0.here hx rfl (hb hby d12_24) k)) ?_
      exact Goes.retB X0 hx hlk hret (Or.inl rfl) (hb hby d12_25) (by decide) (by decide) ⟨own_is0 hz hP (fun q => hc10 q.2), N0, e0⟩
  · refine Goes.on (T' := T0) (g' := (mkF m 25 #[.val (.ref a), .val (.ref b), .val (.int (0 : Int32))] [(.int (0 : Int32))])) (fun _ k => XS.icmpNo X0.here hx rfl (hb hby d12_21) rfl (XT.ii_eq_f hc6) (XS.iconst X0.here hx rfl (hb hby d12_24) k)) ?_
    exact Goes.retB X0 hx hlk hret (Or.inl rfl) (hb hby d12_25) (by decide) (by decide) ⟨own_is0 hz hP (fun q => hc6 q.1), N0, e0⟩
set_option maxRecDepth 65536 in
set_option maxHeartbeats 40000000 in
theorem rmEqd2_2 (l : Launch) (Z : State) (a0 : Array Value) (hw : ∀ d ∈ tables_1, d.before a0 Z = true) (a b : Addr) (u0 u1 : Int32)  (h0 : Heap) (n0 : Nat) (Z0 : n0 ≤ h0.size) (O0 : Old Z n0 h0) (cs : Int32) (SC : Sta Z Z.heap "java/lang/String" "COMPACT_STRINGS" "Z" (.int cs)) (hcs : ¬ cs = (0 : Int32)) (ya yb : Addr) (ka kb : ClassId) (PA : Str Z h0 a ya ka (Int32.ofNat 2) [Value.int u0, Value.int u1]) (PB : Str Z h0 b yb kb (Int32.ofNat 2) [Value.int (46 : Int32), Value.int (46 : Int32)]) (z : Int32) (hz : z = 0 ∨ z = 1) (hP : z = 1 ↔ u0 = (46 : Int32) ∧ u1 = (46 : Int32)) :
    Pays l Z (⟨"java/lang/String", "equals", "(Ljava/lang/Object;)Z"⟩ : MethodName) jdk_42_method_66_code 3 (some .boolean) [] ({ frames := 1, cells := 0, slots := 0, locals := 14 } : Room) #[(.ref a), (.ref b)] h0 (fun v h L => v = some (.int z) ∧ Fr n0 L ∧ h = h0) := by
  refine Pays.walk (plainFor_of_name pn_1) (fun m => ef_7 m a b ) ?_
  intro p e s m below meth c T0 X0 hx hby hml hown hnm hZ e0 hret hlk
  have N0 := Fr.nil n0
  have BA : Arf Z h0 ya .byte Value.int 2 (fun i => ([u0, u1] : List Int32).getD i 0) := Arv.arf PA.2.2.2 (by decide) (own_lt2 rfl rfl)
  have BB : Arf Z h0 yb .byte Value.int 2 (fun i => ([(46 : Int32), (46 : Int32)] : List Int32).getD i 0) := Arv.arf PB.2.2.2 (by decide) (own_lt2 rfl rfl)
  refine Goes.on (T' := T0) (g' := (mkF m 2 #[.val (.ref a), .val (.ref b), .unset] [(.ref b), (.ref a)])) (fun _ k => XS.aloadN X0.here hx rfl (hb hby d11_0) rfl rfl (XS.aloadN X0.here hx rfl (hb hby d11_1) rfl rfl k)) ?_
  by_cases hc1 : ((.ref a) : Value) = (.ref b)
  · refine Goes.on (T' := T0) (g' := (mkF m 6 #[.val (.ref a), .val (.ref b), .unset] [(.int (1 : Int32))])) (fun _ k => XT.acmpNo X0.here hx rfl (hb hby d11_2) rfl rfl rfl (XT.aa_ne_f hc1) (XS.iconst X0.here hx rfl (hb hby d11_5) k)) ?_
    exact Goes.retB X0 hx hlk hret (Or.inr rfl) (hb hby d11_6) (by decide) (by decide) ⟨own_is1 hP (own_s2 (own_same PA PB (Value.ref.inj hc1) (by decide)).2), N0, e0⟩
  · refine Goes.on (T' := T0) (g' := (mkF m 8 #[.val (.ref a), .val (.ref b), .unset] [(.ref b)])) (fun _ k => XT.acmpYes X0.here hx rfl (pc0 := 2) (pc' := 7) rfl (hb hby d11_2) rfl rfl rfl (XT.aa_ne_t hc1) (by decide) (by decide) (XS.aloadN X0.here hx rfl (hb hby d11_7) rfl rfl k)) ?_
    obtain ⟨T2, X2, e2, st2⟩ := instY X0 hx hZ hown (own_w hw 57 rfl) e0 (Ins.self PB.1) (g := (mkF m 8 #[.val (.ref a), .val (.ref b), .unset] [(.ref b)])) rfl rfl (hb hby d11_8)
    refine Goes.on (T' := T2) (g' := (mkF m 15 #[.val (.ref a), .val (.ref b), .unset] [(.ref b)])) (fun _ k => st2 _ (XS.ifNo X2.here hx rfl (hb hby d11_11) rfl (XT.i0_eq_f (by decide)) (XS.aloadN X2.here hx rfl (hb hby d11_14) rfl rfl k))) ?_
    obtain ⟨T3, X3, e3, st3⟩ := castY X2 hx hZ hown (own_w hw 57 rfl) e2 (Ins.self PB.1) (g := (mkF m 15 #[.val (.ref a), .val (.ref b), .unset] [(.ref b)])) rfl rfl (hb hby d11_15)
    refine Goes.on (T' := T3) (g' := (mkF m 19 #[.val (.ref a), .val (.ref b), .val (.ref b)] [])) (fun _ k => st3 _ (XS.astoreN X3.here hx rfl (hb hby d11_18) rfl rfl (l' := #[.val (.ref a), .val (.ref b), .val (.ref b)]) rfl k)) ?_
    obtain ⟨T4, X4, e4, st4⟩ := getS (host := "") X3 hx hZ hown (own_w hw 21 rfl) Via.refl e3 (Sta.ext O0.2 SC) (g := (mkF m 19 #[.val (.ref a), .val (.ref b), .val (.ref b)] [])) rfl (hb hby d11_19)
    refine Goes.on (T' := T4) (g' := (mkF m 26 #[.val (.ref a), .val (.ref b), .val (.ref b)] [(.ref a)])) (fun _ k => st4 _ (XS.ifNo X4.here hx rfl (hb hby d11_22) rfl (XT.i0_eq_f hcs) (XS.aloadN X4.here hx rfl (hb hby d11_25) rfl rfl k))) ?_
    obtain ⟨T5, X5, e5, st5⟩ := getF X4 hx hZ hown (host := "") (Or.inl (own_w hw 33 rfl)) Via.refl e4 PA.2.1 (g := (mkF m 26 #[.val (.ref a), .val (.ref b), .val (.ref b)] [(.ref a)])) rfl rfl (hb hby d11_26)
    refine Goes.on (T' := T5) (g' := (mkF m 30 #[.val (.ref a), .val (.ref b), .val (.ref b)] [(.ref b), (.int (0 : Int32))])) (fun _ k => st5 _ (XS.aloadN X5.here hx rfl (hb hby d11_29) rfl rfl k)) ?_
    obtain ⟨T6, X6, e6, st6⟩ := getF X5 hx hZ hown (host := "") (Or.inl (own_w hw 33 rfl)) Via.refl e5 PB.2.1 (g := (mkF m 30 #[.val (.ref a), .val (.ref b), .val (.ref b)] [(.ref b), (.int (0 : Int32))])) rfl rfl (hb hby d11_30)
    refine Goes.on (T' := T6) (g' := (mkF m 37 #[.val (.ref a), .val (.ref b), .val (.ref b)] [(.ref a)])) (fun _ k => st6 _ (XS.icmpNo X6.here hx rfl (hb hby d11_33) rfl (XT.ii_ne_f (by decide)) (XS.aloadN X6.here hx rfl (hb hby d11_36) rfl rfl k))) ?_
    obtain ⟨T7, X7, e7, st7⟩ := getF X6 hx hZ hown (host := "") (Or.inl (own_w hw 35 rfl)) Via.refl e6 PA.2.2.1 (g := (mkF m 37 #[.val (.ref a), .val (.ref b), .val (.ref b)] [(.ref a)])) rfl rfl (hb hby d11_37)
    refine Goes.on (T' := T7) (g' := (mkF m 41 #[.val (.ref a), .val (.ref b), .val (.ref b)] [(.ref b), (.ref ya)])) (fun _ k => st7 _ (XS.aloadN X7.here hx rfl (hb hby d11_40) rfl rfl k)) ?_
    obtain ⟨T8, X8, e8, st8⟩ := getF X7 hx hZ hown (host := "") (Or.inl (own_w hw 35 rfl)) Via.refl e7 PB.2.2.1 (g := (mkF m 41 #[.val (.ref a), .val (.ref b), .val (.ref b)] [(.ref b), (.ref ya)])) rfl rfl (hb hby d11_41)
    refine Goes.on (T' := T8) (g' := (mkF m 44 #[.val (.ref a), .val (.ref b), .val (.ref b)] [(.ref yb), (.ref ya)])) (fun _ k => st8 _ k) ?_
    refine Goes.callS X8 hx hZ 0 hown (own_w hw 58 rfl) (own_w hw 59 rfl) (own_w hw 60 rfl) (own_w hw 61 rfl) (by decide) e8 (rmLed2_2 l Z a0 hw ya yb u0 u1 h0 n0 Z0 BA BB z hz hP) (by decide) (by decide) (by decide) (by decide) rfl (by rw [hml]; rfl) (argsL := [(.ref ya), (.ref yb)]) (rest := []) rfl (lenOf pd_6 rfl) rfl (by show 2 * 0 + _ ≤ _; exact Nat.le_of_eq rfl) (hb hby d11_44) ?_
    intro v9 T9 L9 X9 hQ9
    obtain ⟨rfl, N9q, e9⟩ := hQ9
    have N9 := Fr.app N0 N9q
    show Goes p e below _ T9 (mkF m 47 #[.val (.ref a), .val (.ref b), .val (.ref b)] [(.int z)])
    by_cases hc10 : z = (0 : Int32)
    · refine Goes.on (T' := T9) (g' := (mkF m 55 #[.val (.ref a), .val (.ref b), .val (.ref b)] [(.int (0 : Int32))])) (fun _ k => XS.ifYes X9.here hx rfl (pc0 := 47) (pc' := 54) rfl (hb hby d11_47) rfl (XT.i0_eq_t hc10) (by decide) (by decide) (XS.iconst X9.here hx rfl (hb hby d11_54) k)) ?_
      exact Goes.retB X9 hx hlk hret (Or.inl rfl) (hb hby d11_55) (by decide) (by decide) ⟨own_z hc10, N9, e9⟩
    · refine Goes.on (T' := T9) (g' := (mkF m 55 #[.val (.ref a), .val (.ref b), .val (.ref b)] [(.int (1 : Int32))])) (fun _ k => XS.ifNo X9.here hx rfl (hb hby d11_47) rfl (XT.i0_eq_f hc10) (XS.iconst X9.here hx rfl (hb hby d11_50) (XS.goto X9.here hx rfl (pc0 := 51) (pc' := 55) rfl (hb hby d11_51) (by decide) (by decide) k))) ?_
      exact Goes.retB X9 hx hlk hret (Or.inr rfl) (hb hby d11_55) (by decide) (by decide) ⟨own_nz hz hc10, N9, e9⟩
set_option maxRecDepth 65536 in
set_option maxHeartbeats 40000000 in
theorem rmOa_2 (l : Launch) (Z : State) (a0 : Array Value) (hw : ∀ d ∈ tables_1, d.before a0 Z = true) (a : Addr) (x1 : Addr) (x2 : Int64) (h0 : Heap) (n0 : Nat) (Z0 : n0 ≤ h0.size) (E0 : Exa Z h0 a "com/example/narada/narada/ObjectAddress") (ga : n0 ≤ a) (F_endpoint : Fld Z h0 a "com/example/narada/narada/ObjectAddress" "endpoint" "Ljava/lang/String;" .null) (F_object : Fld Z h0 a "com/example/narada/narada/ObjectAddress" "object" "J" (.long (0 : Int64))) (hEL : EW Z a0 consts_1) (O0 : Old Z n0 h0) (cs : Int32) (SC : Sta Z Z.heap "java/lang/String" "COMPACT_STRINGS" "Z" (.int cs)) (hcs : ¬ cs = (0 : Int32)) (ya : Addr) (ka : ClassId) (u0 u1 : Int32) (PA : Str Z h0 x1 ya ka (Int32.ofNat 2) [Value.int u0, Value.int u1]) (k1 : ¬ (False)) (k2 : ¬ (u0 = (46 : Int32) ∧ u1 = (46 : Int32))) (gs0 : ¬ u0 = (47 : Int32).toInt8.toInt32) (gs1 : ¬ u1 = (47 : Int32).toInt8.toInt32) (gn0 : ¬ u0 = (0 : Int32).toInt8.toInt32) (gn1 : ¬ u1 = (0 : Int32).toInt8.toInt32) :
    PaysW l Z consts_1 (⟨"com/example/narada/narada/ObjectAddress", "<init>", "(Ljava/lang/String;J)V"⟩ : MethodName) prog_13_method_1_code 4 none [] ({ frames := 4, cells := 4, slots := 40, locals := 59 } : Room) #[(.ref a), (.ref x1), (.long x2)] h0 (fun v h L => v = none ∧ Fr n0 L ∧ Keep h0 h [a] ∧ Exa Z h a "com/example/narada/narada/ObjectAddress" ∧ Fld Z h a "com/example/narada/narada/ObjectAddress" "endpoint" "Ljava/lang/String;" (.ref x1) ∧ Fld Z h a "com/example/narada/narada/ObjectAddress" "object" "J" (.long x2)) := by
  refine PaysW.walk (plainFor_of_name pn_3) (fun m => ef_8 m a x1 x2 ) ?_
  intro p e s m below meth c T0 X0 hx hby hml hown hnm hZ e0 hret hlk hS0 RR0
  have hk0 : 0 ≤ h0.size := Nat.zero_le _
  have S0 : h0.size ≤ h0.size := Nat.le_refl _
  have wS := own_wS hw
  have N0 := Fr.nil n0
  have K0 := Keep.refl h0 [a]
  refine Goes.on (T' := T0) (g' := (mkF m 1 #[.val (.ref a), .val (.ref x1), .val (.long x2), .second] [(.ref a)])) (fun _ k => XS.aloadN X0.here hx rfl (hb hby d9_0) rfl rfl k) ?_
  obtain ⟨T1, X1, e1, st1⟩ := initO X0 hx hZ hown (own_w hw 43 rfl) (own_w hw 19 rfl) (own_w hw 20 rfl) e0 (g := (mkF m 1 #[.val (.ref a), .val (.ref x1), .val (.long x2), .second] [(.ref a)])) rfl (by rw [hml]; rfl) rfl (hb hby d9_1) (by decide) (W := 0) (by show 2 * 0 + _ ≤ _; exact Nat.le_of_eq rfl) (by decide)
  refine Goes.on (T' := T1) (g' := (mkF m 5 #[.val (.ref a), .val (.ref x1), .val (.long x2), .second] [(.ref x1)])) (fun _ k => st1 _ (XS.aloadN X1.here hx rfl (hb hby d9_4) rfl rfl k)) ?_
  refine Goes.callV X1 hx hZ 0 hown (own_w hw 44 rfl) (own_w hw 45 rfl) (notFace_of_selects (args := #[]) (mvT hZ (own_w hw 47 rfl))) (own_w hw 47 rfl) (own_w hw 46 rfl) (own_w hw 9 rfl) (own_w hw 48 rfl) (by decide) e1 (PA).1 (rmEm_2 l Z a0 hw x1 u0 u1 h0 n0 Z0 O0 cs SC hcs ya ka PA ) (by decide) (by decide) (by decide) (by decide) rfl (by rw [hml]; rfl) (argsL := []) (rest := []) rfl (lenOf pd_4 rfl) rfl (by show 2 * 0 + _ ≤ _; exact Nat.le_of_eq rfl) (hb hby d9_5) ?_
  intro v2 T2 L2 X2 hQ2
  obtain ⟨rfl, N2q, e2⟩ := hQ2
  have N2 := Fr.app N0 N2q
  show Goes p e below _ T2 (mkF m 8 #[.val (.ref a), .val (.ref x1), .val (.long x2), .second] [(.int (0 : Int32))])
  refine Goes.on (T' := T2) (g' := (mkF m 12 #[.val (.ref a), .val (.ref x1), .val (.long x2), .second] [(.ref x1)])) (fun _ k => XS.ifNo X2.here hx rfl (hb hby d9_8) rfl (XT.i0_ne_f (by decide)) (XS.aloadN X2.here hx rfl (hb hby d9_11) rfl rfl k)) ?_
  obtain ⟨a3, T3, h3, k3, b3, kb3, X3, e3, E3, hS3, hk3, hZ3, hown3, A3, C3, V3, K3, lt3, lu3, R3, Lt3, sf3, st3⟩ := ldcCH X2 hx hZ hown (own_w hw 49 rfl) wS e2 hS0 hk0 hEL (List.mem_of_getElem? (i := 0) rfl) RR0.1 (vs := [Value.int 46]) (z := Int32.ofNat 1) ⟨by decide, by decide⟩ (by decide) (by decide) (g := (mkF m 12 #[.val (.ref a), .val (.ref x1), .val (.long x2), .second] [(.ref x1)])) rfl (hb hby d9_12) (n := 4) (by decide) (by decide) (by decide) (by decide)
  have C4 := E0.ext E3
  have C5 := F_endpoint.ext E3
  have C6 := F_object.ext E3
  have C7 := O0.ext E3
  have C8 := PA.ext E3
  have Z9 : n0 ≤ h3.size := Nat.le_trans Z0 E3.1
  have K12 := K0.ext E3
  have RR3 := RR0.trans R3
  have Q3 : Str Z h3 a3 b3 kb3 (Int32.ofNat 1) [Value.int 46] := ⟨A3, C3, V3, K3⟩
  refine Goes.on (T' := T3) (g' := (mkF m 14 #[.val (.ref a), .val (.ref x1), .val (.long x2), .second] [(.ref a3), (.ref x1)])) (fun _ k => st3 _ k) ?_
  refine Goes.callV X3 hx hZ3 0 hown3 (own_w hw 52 rfl) (own_w hw 53 rfl) (notFace_of_selects (args := #[]) (mvT hZ3 (own_w hw 55 rfl))) (own_w hw 55 rfl) (own_w hw 54 rfl) (own_w hw 9 rfl) (own_w hw 56 rfl) (by decide) e3 (C8).1 (rmEqd1_2 l Z a0 hw x1 a3 u0 u1 h3 n0 Z9 C7 cs SC hcs ya b3 ka kb3 C8 Q3 (0 : Int32) (Or.inl rfl) (own_F k1)) (by decide) (by decide) (by decide) (by decide) rfl (by rw [hml]; rfl) (argsL := [(.ref a3)]) (rest := []) rfl (lenOf pd_7 rfl) rfl (by show 2 * 0 + _ ≤ _; exact Nat.le_of_eq rfl) (hb hby d9_14) ?_
  intro v13 T13 L13 X13 hQ13
  obtain ⟨rfl, N13q, e13⟩ := hQ13
  have N13 := Fr.app N2 N13q
  show Goes p e below _ T13 (mkF m 17 #[.val (.ref a), .val (.ref x1), .val (.long x2), .second] [(.int (0 : Int32))])
  refine Goes.on (T' := T13) (g' := (mkF m 21 #[.val (.ref a), .val (.ref x1), .val (.long x2), .second] [(.ref x1)])) (fun _ k => XS.ifNo X13.here hx rfl (hb hby d9_17) rfl (XT.i0_ne_f (by decide)) (XS.aloadN X13.here hx rfl (hb hby d9_20) rfl rfl k)) ?_
  obtain ⟨a14, T14, h14, k14, b14, kb14, X14, e14, E14, hS14, hk14, hZ14, hown14, A14, C14, V14, K14, lt14, lu14, R14, Lt14, sf14, st14⟩ := ldcCH X13 hx hZ3 hown3 (own_w hw 62 rfl) wS e13 hS3 hk3 hEL (List.mem_of_getElem? (i := 1) rfl) RR3.1 (vs := [Value.int 46, Value.int 46]) (z := Int32.ofNat 2) ⟨by decide, by decide⟩ (by decide) (by decide) (g := (mkF m 21 #[.val (.ref a), .val (.ref x1), .val (.long x2), .second] [(.ref x1)])) rfl (hb hby d9_21) (n := 8) (by decide) (by decide) (by decide) (by decide)
  have C15 := C4.ext E14
  have C16 := C5.ext E14
  have C17 := C6.ext E14
  have C18 := C7.ext E14
  have C19 := C8.ext E14
  have Z21 : n0 ≤ h14.size := Nat.le_trans Z9 E14.1
  have K24 := K12.ext E14
  have RR14 := RR3.trans R14
  have Q14 : Str Z h14 a14 b14 kb14 (Int32.ofNat 2) [Value.int 46, Value.int 46] := ⟨A14, C14, V14, K14⟩
  refine Goes.on (T' := T14) (g' := (mkF m 23 #[.val (.ref a), .val (.ref x1), .val (.long x2), .second] [(.ref a14), (.ref x1)])) (fun _ k => st14 _ k) ?_
  refine Goes.callV X14 hx hZ14 0 hown14 (own_w hw 52 rfl) (own_w hw 53 rfl) (notFace_of_selects (args := #[]) (mvT hZ14 (own_w hw 55 rfl))) (own_w hw 55 rfl) (own_w hw 54 rfl) (own_w hw 9 rfl) (own_w hw 56 rfl) (by decide) e14 (C19).1 (rmEqd2_2 l Z a0 hw x1 a14 u0 u1 h14 n0 Z21 C18 cs SC hcs ya b14 ka kb14 C19 Q14 (0 : Int32) (Or.inl rfl) (own_F k2)) (by decide) (by decide) (by decide) (by decide) rfl (by rw [hml]; rfl) (argsL := [(.ref a14)]) (rest := []) rfl (lenOf pd_7 rfl) rfl (by show 2 * 0 + _ ≤ _; exact Nat.le_of_eq rfl) (hb hby d9_23) ?_
  intro v25 T25 L25 X25 hQ25
  obtain ⟨rfl, N25q, e25⟩ := hQ25
  have N25 := Fr.app N13 N25q
  show Goes p e below _ T25 (mkF m 26 #[.val (.ref a), .val (.ref x1), .val (.long x2), .second] [(.int (0 : Int32))])
  refine Goes.on (T' := T25) (g' := (mkF m 32 #[.val (.ref a), .val (.ref x1), .val (.long x2), .second] [(.int (47 : Int32)), (.ref x1)])) (fun _ k => XS.ifNo X25.here hx rfl (hb hby d9_26) rfl (XT.i0_ne_f (by decide)) (XS.aloadN X25.here hx rfl (hb hby d9_29) rfl rfl (XS.bipush X25.here hx rfl (hb hby d9_30) k))) ?_
  refine Goes.callV X25 hx hZ14 0 hown14 (own_w hw 63 rfl) (own_w hw 64 rfl) (notFace_of_selects (args := #[]) (mvT hZ14 (own_w hw 66 rfl))) (own_w hw 66 rfl) (own_w hw 65 rfl) (own_w hw 9 rfl) (own_w hw 67 rfl) (by decide) e25 (C19).1 (rmIx47_2 l Z a0 hw x1 u0 u1 h14 n0 Z21 C18 cs SC hcs ya ka C19 gs0 gs1) (by decide) (by decide) (by decide) (by decide) rfl (by rw [hml]; rfl) (argsL := [(.int (47 : Int32))]) (rest := []) rfl (lenOf pd_8 rfl) rfl (by show 2 * 0 + _ ≤ _; exact Nat.le_of_eq rfl) (hb hby d9_32) ?_
  intro v26 T26 L26 X26 hQ26
  obtain ⟨rfl, N26q, e26⟩ := hQ26
  have N26 := Fr.app N25 N26q
  show Goes p e below _ T26 (mkF m 35 #[.val (.ref a), .val (.ref x1), .val (.long x2), .second] [(.int (-1 : Int32))])
  refine Goes.on (T' := T26) (g' := (mkF m 40 #[.val (.ref a), .val (.ref x1), .val (.long x2), .second] [(.int (0 : Int32)), (.ref x1)])) (fun _ k => XS.ifNo X26.here hx rfl (hb hby d9_35) rfl (XT.i0_ge_f (by decide)) (XS.aloadN X26.here hx rfl (hb hby d9_38) rfl rfl (XS.iconst X26.here hx rfl (hb hby d9_39) k))) ?_
  refine Goes.callV X26 hx hZ14 0 hown14 (own_w hw 63 rfl) (own_w hw 64 rfl) (notFace_of_selects (args := #[]) (mvT hZ14 (own_w hw 66 rfl))) (own_w hw 66 rfl) (own_w hw 65 rfl) (own_w hw 9 rfl) (own_w hw 67 rfl) (by decide) e26 (C19).1 (rmIx0_2 l Z a0 hw x1 u0 u1 h14 n0 Z21 C18 cs SC hcs ya ka C19 gn0 gn1) (by decide) (by decide) (by decide) (by decide) rfl (by rw [hml]; rfl) (argsL := [(.int (0 : Int32))]) (rest := []) rfl (lenOf pd_8 rfl) rfl (by show 2 * 0 + _ ≤ _; exact Nat.le_of_eq rfl) (hb hby d9_40) ?_
  intro v27 T27 L27 X27 hQ27
  obtain ⟨rfl, N27q, e27⟩ := hQ27
  have N27 := Fr.app N26 N27q
  show Goes p e below _ T27 (mkF m 43 #[.val (.ref a), .val (.ref x1), .val (.long x2), .second] [(.int (-1 : Int32))])
  refine Goes.on (T' := T27) (g' := (mkF m 62 #[.val (.ref a), .val (.ref x1), .val (.long x2), .second] [(.ref x1), (.ref a)])) (fun _ k => XS.ifYes X27.here hx rfl (pc0 := 43) (pc' := 60) rfl (hb hby d9_43) rfl (XT.i0_lt_t (by decide)) (by decide) (by decide) (XS.aloadN X27.here hx rfl (hb hby d9_60) rfl rfl (XS.aloadN X27.here hx rfl (hb hby d9_61) rfl rfl k))) ?_
  obtain ⟨T28, h28, X28, e28, W28, st28⟩ := putF X27 hx hZ14 hown14 (host := "") (Or.inl (own_w hw 104 rfl)) Via.refl e27 C16 C15 (Or.inr ⟨(own_w hw 105 rfl), rfl, hnm⟩) (own_w hw 38 rfl) (ty := (.object "java/lang/String")) (by decide) rfl rfl (g := (mkF m 62 #[.val (.ref a), .val (.ref x1), .val (.long x2), .second] [(.ref x1), (.ref a)])) rfl rfl (hb hby d9_62)
  have N28 := Fr.snoc X28 N27 ga
  have C29 := C15.wr W28
  have C30 := C16.same W28
  have C31 := C17.other W28 (Or.inr (slot_ne (Or.inr (own_w hw 107 rfl)) (Or.inr (own_w hw 105 rfl)) (by decide) (t := .long) (by decide) (t' := (.object "java/lang/String")) (by decide)))
  have Z34 : k14 ≤ h28.size := by rw [W28.size]; exact hk14
  have RR36 := RR14.trans (CHr.wr W28 (Safe.exa hZ14.alike C15 (by decide) (by decide)) RR14.1)
  have K37 := K24.wr W28 (Or.inl (List.mem_of_getElem? (i := 0) rfl))
  refine Goes.on (T' := T28) (g' := (mkF m 67 #[.val (.ref a), .val (.ref x1), .val (.long x2), .second] [(.long x2), (.ref a)])) (fun _ k => st28 _ (XS.aloadN X28.here hx rfl (hb hby d9_65) rfl rfl (XS.lloadN X28.here hx rfl (hb hby d9_66) rfl k))) ?_
  obtain ⟨T38, h38, X38, e38, W38, st38⟩ := putF X28 hx hZ14 hown14 (host := "") (Or.inl (own_w hw 106 rfl)) Via.refl e28 C31 C29 (Or.inr ⟨(own_w hw 107 rfl), rfl, hnm⟩) (own_w hw 38 rfl) (ty := .long) (by decide) rfl rfl (g := (mkF m 67 #[.val (.ref a), .val (.ref x1), .val (.long x2), .second] [(.long x2), (.ref a)])) rfl rfl (hb hby d9_67)
  have N38 := Fr.snoc X38 N28 ga
  have C39 := C29.wr W38
  have C40 := C30.other W38 (Or.inr (slot_ne (Or.inr (own_w hw 105 rfl)) (Or.inr (own_w hw 107 rfl)) (by decide) (t := (.object "java/lang/String")) (by decide) (t' := .long) (by decide)))
  have C41 := C31.same W38
  have Z44 : k14 ≤ h38.size := by rw [W38.size]; exact Z34
  have RR46 := RR36.trans (CHr.wr W38 (Safe.exa hZ14.alike C29 (by decide) (by decide)) RR36.1)
  have K47 := K37.wr W38 (Or.inl (List.mem_of_getElem? (i := 0) rfl))
  refine Goes.on (T' := T38) (g' := (mkF m 70 #[.val (.ref a), .val (.ref x1), .val (.long x2), .second] [])) (fun _ k => st38 _ k) ?_
  exact Goes.retVW X38 hS14 (by rw [e38]; exact Z44) hZ14 hEL (by rw [e38]; exact RR46) hx hlk hret (hb hby d9_70) (by decide) (by decide) (by rw [e38]; exact ⟨rfl, N38, K47, C39, C40, C41⟩)
set_option maxRecDepth 65536 in
set_option maxHeartbeats 40000000 in
theorem rmLess11 (l : Launch) (Z : State) (a0 : Array Value) (hw : ∀ d ∈ tables_1, d.before a0 Z = true) (a b : Addr) (u0 v0 : Int32)  (h0 : Heap) (n0 : Nat) (Z0 : n0 ≤ h0.size) (B0 : Arf Z h0 a .byte Value.int 1 (fun i => ([u0] : List Int32).getD i 0)) (B1 : Arf Z h0 b .byte Value.int 1 (fun i => ([v0] : List Int32).getD i 0)) (z : Int32) (hz : z = 0 ∨ z = 1) (hP : z = 1 ↔ u0 = v0) :
    Pays l Z (⟨"java/lang/StringLatin1", "equals", "([B[B)Z"⟩ : MethodName) jdk_43_method_13_code 3 (some .boolean) [] ({ frames := 0, cells := 0, slots := 0, locals := 0 } : Room) #[(.ref a), (.ref b)] h0 (fun v h L => v = some (.int z) ∧ Fr n0 L ∧ h = h0) := by
  refine Pays.walk (plainFor_of_name pn_2) (fun m => ef_7 m a b ) ?_
  intro p e s m below meth c T0 X0 hx hby hml hown hnm hZ e0 hret hlk
  have N0 := Fr.nil n0
  refine Goes.on (T' := T0) (g' := (mkF m 16 #[.val (.ref a), .val (.ref b), .val (.int (0 : Int32))] [(.ref a)])) (fun _ k => XS.aloadN X0.here hx rfl (hb hby d12_0) rfl rfl (aLenm X0 hx hZ e0 B0 (hb hby d12_1) (XS.aloadN X0.here hx rfl (hb hby d12_2) rfl rfl (aLenm X0 hx hZ e0 B1 (hb hby d12_3) (XS.icmpNo X0.here hx rfl (hb hby d12_4) rfl (XT.ii_ne_f (by decide)) (XS.iconst X0.here hx rfl (hb hby d12_7) (XS.istoreN X0.here hx rfl (hb hby d12_8) rfl (l' := #[.val (.ref a), .val (.ref b), .val (.int (0 : Int32))]) rfl (XS.iloadN X0.here hx rfl (hb hby d12_9) rfl (XS.aloadN X0.here hx rfl (hb hby d12_10) rfl rfl (aLenm X0 hx hZ e0 B0 (hb hby d12_11) (XS.icmpNo X0.here hx rfl (hb hby d12_12) rfl (XT.ii_ge_f (by decide)) (XS.aloadN X0.here hx rfl (hb hby d12_15) rfl rfl k)))))))))))) ?_
  refine Goes.on (T' := T0) (g' := (mkF m 21 #[.val (.ref a), .val (.ref b), .val (.int (0 : Int32))] [(.int v0), (.int u0)])) (fun _ k => XS.iloadN X0.here hx rfl (hb hby d12_16) rfl (ldYm X0 hx hZ e0 B0 (by decide) (hb hby d12_17) (XS.aloadN X0.here hx rfl (hb hby d12_18) rfl rfl (XS.iloadN X0.here hx rfl (hb hby d12_19) rfl (ldYm X0 hx hZ e0 B1 (by decide) (hb hby d12_20) k))))) ?_
  by_cases hc6 : u0 = v0
  · refine Goes.on (T' := T0) (g' := (mkF m 33 #[.val (.ref a), .val (.ref b), .val (.int (1 : Int32))] [(.int (1 : Int32))])) (fun _ k => XS.icmpYes X0.here hx rfl (pc0 := 21) (pc' := 26) rfl (hb hby d12_21) rfl (XT.ii_eq_t hc6) (by decide) (by decide) (XT.iincV X0.here hx rfl (1 : Int32) (hb hby d12_26) (by decide) rfl (l' := #[.val (.ref a), .val (.ref b), .val (.int (1 : Int32))]) rfl (XS.goto X0.here hx rfl (pc0 := 29) (pc' := 9) rfl (hb hby d12_29) (by decide) (by decide) (XS.iloadN X0.here hx rfl (hb hby d12_9) rfl (XS.aloadN X0.here hx rfl (hb hby d12_10) rfl rfl (aLenm X0 hx hZ e0 B0 (hb hby d12_11) (XS.icmpYes X0.here hx rfl (pc0 := 12) (pc' := 32) rfl (hb hby d12_12) rfl (XT.ii_ge_t (by decide)) (by decide) (by decide) (XS.iconst X0.here hx rfl (hb hby d12_32) k)))))))) ?_
    exact Goes.retB X0 hx hlk hret (Or.inr rfl) (hb hby d12_33) (by decide) (by decide) ⟨own_is1 hP hc6, N0, e0⟩
  · refine Goes.on (T' := T0) (g' := (mkF m 25 #[.val (.ref a), .val (.ref b), .val (.int (0 : Int32))] [(.int (0 : Int32))])) (fun _ k => XS.icmpNo X0.here hx rfl (hb hby d12_21) rfl (XT.ii_eq_f hc6) (XS.iconst X0.here hx rfl (hb hby d12_24) k)) ?_
    exact Goes.retB X0 hx hlk hret (Or.inl rfl) (hb hby d12_25) (by decide) (by decide) ⟨own_is0 hz hP (fun q => hc6 q), N0, e0⟩
set_option maxRecDepth 65536 in
set_option maxHeartbeats 40000000 in
theorem rmEqss11 (l : Launch) (Z : State) (a0 : Array Value) (hw : ∀ d ∈ tables_1, d.before a0 Z = true) (a b : Addr) (u0 v0 : Int32)  (h0 : Heap) (n0 : Nat) (Z0 : n0 ≤ h0.size) (O0 : Old Z n0 h0) (cs : Int32) (SC : Sta Z Z.heap "java/lang/String" "COMPACT_STRINGS" "Z" (.int cs)) (hcs : ¬ cs = (0 : Int32)) (ya yb : Addr) (ka kb : ClassId) (PA : Str Z h0 a ya ka (Int32.ofNat 1) [Value.int u0]) (PB : Str Z h0 b yb kb (Int32.ofNat 1) [Value.int v0]) (z : Int32) (hz : z = 0 ∨ z = 1) (hP : z = 1 ↔ u0 = v0) :
    Pays l Z (⟨"java/lang/String", "equals", "(Ljava/lang/Object;)Z"⟩ : MethodName) jdk_42_method_66_code 3 (some .boolean) [] ({ frames := 1, cells := 0, slots := 0, locals := 14 } : Room) #[(.ref a), (.ref b)] h0 (fun v h L => v = some (.int z) ∧ Fr n0 L ∧ h = h0) := by
  refine Pays.walk (plainFor_of_name pn_1) (fun m => ef_7 m a b ) ?_
  intro p e s m below meth c T0 X0 hx hby hml hown hnm hZ e0 hret hlk
  have N0 := Fr.nil n0
  have BA : Arf Z h0 ya .byte Value.int 1 (fun i => ([u0] : List Int32).getD i 0) := Arv.arf PA.2.2.2 (by decide) (own_lt1 rfl)
  have BB : Arf Z h0 yb .byte Value.int 1 (fun i => ([v0] : List Int32).getD i 0) := Arv.arf PB.2.2.2 (by decide) (own_lt1 rfl)
  refine Goes.on (T' := T0) (g' := (mkF m 2 #[.val (.ref a), .val (.ref b), .unset] [(.ref b), (.ref a)])) (fun _ k => XS.aloadN X0.here hx rfl (hb hby d11_0) rfl rfl (XS.aloadN X0.here hx rfl (hb hby d11_1) rfl rfl k)) ?_
  by_cases hc1 : ((.ref a) : Value) = (.ref b)
  · refine Goes.on (T' := T0) (g' := (mkF m 6 #[.val (.ref a), .val (.ref b), .unset] [(.int (1 : Int32))])) (fun _ k => XT.acmpNo X0.here hx rfl (hb hby d11_2) rfl rfl rfl (XT.aa_ne_f hc1) (XS.iconst X0.here hx rfl (hb hby d11_5) k)) ?_
    exact Goes.retB X0 hx hlk hret (Or.inr rfl) (hb hby d11_6) (by decide) (by decide) ⟨own_is1 hP (own_s1 (own_same PA PB (Value.ref.inj hc1) (by decide)).2), N0, e0⟩
  · refine Goes.on (T' := T0) (g' := (mkF m 8 #[.val (.ref a), .val (.ref b), .unset] [(.ref b)])) (fun _ k => XT.acmpYes X0.here hx rfl (pc0 := 2) (pc' := 7) rfl (hb hby d11_2) rfl rfl rfl (XT.aa_ne_t hc1) (by decide) (by decide) (XS.aloadN X0.here hx rfl (hb hby d11_7) rfl rfl k)) ?_
    obtain ⟨T2, X2, e2, st2⟩ := instY X0 hx hZ hown (own_w hw 57 rfl) e0 (Ins.self PB.1) (g := (mkF m 8 #[.val (.ref a), .val (.ref b), .unset] [(.ref b)])) rfl rfl (hb hby d11_8)
    refine Goes.on (T' := T2) (g' := (mkF m 15 #[.val (.ref a), .val (.ref b), .unset] [(.ref b)])) (fun _ k => st2 _ (XS.ifNo X2.here hx rfl (hb hby d11_11) rfl (XT.i0_eq_f (by decide)) (XS.aloadN X2.here hx rfl (hb hby d11_14) rfl rfl k))) ?_
    obtain ⟨T3, X3, e3, st3⟩ := castY X2 hx hZ hown (own_w hw 57 rfl) e2 (Ins.self PB.1) (g := (mkF m 15 #[.val (.ref a), .val (.ref b), .unset] [(.ref b)])) rfl rfl (hb hby d11_15)
    refine Goes.on (T' := T3) (g' := (mkF m 19 #[.val (.ref a), .val (.ref b), .val (.ref b)] [])) (fun _ k => st3 _ (XS.astoreN X3.here hx rfl (hb hby d11_18) rfl rfl (l' := #[.val (.ref a), .val (.ref b), .val (.ref b)]) rfl k)) ?_
    obtain ⟨T4, X4, e4, st4⟩ := getS (host := "") X3 hx hZ hown (own_w hw 21 rfl) Via.refl e3 (Sta.ext O0.2 SC) (g := (mkF m 19 #[.val (.ref a), .val (.ref b), .val (.ref b)] [])) rfl (hb hby d11_19)
    refine Goes.on (T' := T4) (g' := (mkF m 26 #[.val (.ref a), .val (.ref b), .val (.ref b)] [(.ref a)])) (fun _ k => st4 _ (XS.ifNo X4.here hx rfl (hb hby d11_22) rfl (XT.i0_eq_f hcs) (XS.aloadN X4.here hx rfl (hb hby d11_25) rfl rfl k))) ?_
    obtain ⟨T5, X5, e5, st5⟩ := getF X4 hx hZ hown (host := "") (Or.inl (own_w hw 33 rfl)) Via.refl e4 PA.2.1 (g := (mkF m 26 #[.val (.ref a), .val (.ref b), .val (.ref b)] [(.ref a)])) rfl rfl (hb hby d11_26)
    refine Goes.on (T' := T5) (g' := (mkF m 30 #[.val (.ref a), .val (.ref b), .val (.ref b)] [(.ref b), (.int (0 : Int32))])) (fun _ k => st5 _ (XS.aloadN X5.here hx rfl (hb hby d11_29) rfl rfl k)) ?_
    obtain ⟨T6, X6, e6, st6⟩ := getF X5 hx hZ hown (host := "") (Or.inl (own_w hw 33 rfl)) Via.refl e5 PB.2.1 (g := (mkF m 30 #[.val (.ref a), .val (.ref b), .val (.ref b)] [(.ref b), (.int (0 : Int32))])) rfl rfl (hb hby d11_30)
    refine Goes.on (T' := T6) (g' := (mkF m 37 #[.val (.ref a), .val (.ref b), .val (.ref b)] [(.ref a)])) (fun _ k => st6 _ (XS.icmpNo X6.here hx rfl (hb hby d11_33) rfl (XT.ii_ne_f (by decide)) (XS.aloadN X6.here hx rfl (hb hby d11_36) rfl rfl k))) ?_
    obtain ⟨T7, X7, e7, st7⟩ := getF X6 hx hZ hown (host := "") (Or.inl (own_w hw 35 rfl)) Via.refl e6 PA.2.2.1 (g := (mkF m 37 #[.val (.ref a), .val (.ref b), .val (.ref b)] [(.ref a)])) rfl rfl (hb hby d11_37)
    refine Goes.on (T' := T7) (g' := (mkF m 41 #[.val (.ref a), .val (.ref b), .val (.ref b)] [(.ref b), (.ref ya)])) (fun _ k => st7 _ (XS.aloadN X7.here hx rfl (hb hby d11_40) rfl rfl k)) ?_
    obtain ⟨T8, X8, e8, st8⟩ := getF X7 hx hZ hown (host := "") (Or.inl (own_w hw 35 rfl)) Via.refl e7 PB.2.2.1 (g := (mkF m 41 #[.val (.ref a), .val (.ref b), .val (.ref b)] [(.ref b), (.ref ya)])) rfl rfl (hb hby d11_41)
    refine Goes.on (T' := T8) (g' := (mkF m 44 #[.val (.ref a), .val (.ref b), .val (.ref b)] [(.ref yb), (.ref ya)])) (fun _ k => st8 _ k) ?_
    refine Goes.callS X8 hx hZ 0 hown (own_w hw 58 rfl) (own_w hw 59 rfl) (own_w hw 60 rfl) (own_w hw 61 rfl) (by decide) e8 (rmLess11 l Z a0 hw ya yb u0 v0 h0 n0 Z0 BA BB z hz hP) (by decide) (by decide) (by decide) (by decide) rfl (by rw [hml]; rfl) (argsL := [(.ref ya), (.ref yb)]) (rest := []) rfl (lenOf pd_6 rfl) rfl (by show 2 * 0 + _ ≤ _; exact Nat.le_of_eq rfl) (hb hby d11_44) ?_
    intro v9 T9 L9 X9 hQ9
    obtain ⟨rfl, N9q, e9⟩ := hQ9
    have N9 := Fr.app N0 N9q
    show Goes p e below _ T9 (mkF m 47 #[.val (.ref a), .val (.ref b), .val (.ref b)] [(.int z)])
    by_cases hc10 : z = (0 : Int32)
    · refine Goes.on (T' := T9) (g' := (mkF m 55 #[.val (.ref a), .val (.ref b), .val (.ref b)] [(.int (0 : Int32))])) (fun _ k => XS.ifYes X9.here hx rfl (pc0 := 47) (pc' := 54) rfl (hb hby d11_47) rfl (XT.i0_eq_t hc10) (by decide) (by decide) (XS.iconst X9.here hx rfl (hb hby d11_54) k)) ?_
      exact Goes.retB X9 hx hlk hret (Or.inl rfl) (hb hby d11_55) (by decide) (by decide) ⟨own_z hc10, N9, e9⟩
    · refine Goes.on (T' := T9) (g' := (mkF m 55 #[.val (.ref a), .val (.ref b), .val (.ref b)] [(.int (1 : Int32))])) (fun _ k => XS.ifNo X9.here hx rfl (hb hby d11_47) rfl (XT.i0_eq_f hc10) (XS.iconst X9.here hx rfl (hb hby d11_50) (XS.goto X9.here hx rfl (pc0 := 51) (pc' := 55) rfl (hb hby d11_51) (by decide) (by decide) k))) ?_
      exact Goes.retB X9 hx hlk hret (Or.inr rfl) (hb hby d11_55) (by decide) (by decide) ⟨own_nz hz hc10, N9, e9⟩
set_option maxRecDepth 65536 in
set_option maxHeartbeats 40000000 in
theorem rmLess12 (l : Launch) (Z : State) (a0 : Array Value) (hw : ∀ d ∈ tables_1, d.before a0 Z = true) (a b : Addr) (u0 v0 v1 : Int32)  (h0 : Heap) (n0 : Nat) (Z0 : n0 ≤ h0.size) (B0 : Arf Z h0 a .byte Value.int 1 (fun i => ([u0] : List Int32).getD i 0)) (B1 : Arf Z h0 b .byte Value.int 2 (fun i => ([v0, v1] : List Int32).getD i 0)) (z : Int32) (hz : z = 0 ∨ z = 1) (hP : z = 1 ↔ False) :
    Pays l Z (⟨"java/lang/StringLatin1", "equals", "([B[B)Z"⟩ : MethodName) jdk_43_method_13_code 3 (some .boolean) [] ({ frames := 0, cells := 0, slots := 0, locals := 0 } : Room) #[(.ref a), (.ref b)] h0 (fun v h L => v = some (.int z) ∧ Fr n0 L ∧ h = h0) := by
  refine Pays.walk (plainFor_of_name pn_2) (fun m => ef_7 m a b ) ?_
  intro p e s m below meth c T0 X0 hx hby hml hown hnm hZ e0 hret hlk
  have N0 := Fr.nil n0
  refine Goes.on (T' := T0) (g' := (mkF m 35 #[.val (.ref a), .val (.ref b), .unset] [(.int (0 : Int32))])) (fun _ k => XS.aloadN X0.here hx rfl (hb hby d12_0) rfl rfl (aLenm X0 hx hZ e0 B0 (hb hby d12_1) (XS.aloadN X0.here hx rfl (hb hby d12_2) rfl rfl (aLenm X0 hx hZ e0 B1 (hb hby d12_3) (XS.icmpYes X0.here hx rfl (pc0 := 4) (pc' := 34) rfl (hb hby d12_4) rfl (XT.ii_ne_t (by decide)) (by decide) (by decide) (XS.iconst X0.here hx rfl (hb hby d12_34) k)))))) ?_
  exact Goes.retB X0 hx hlk hret (Or.inl rfl) (hb hby d12_35) (by decide) (by decide) ⟨own_is0 hz hP (fun q => q), N0, e0⟩
set_option maxRecDepth 65536 in
set_option maxHeartbeats 40000000 in
theorem rmEqss12 (l : Launch) (Z : State) (a0 : Array Value) (hw : ∀ d ∈ tables_1, d.before a0 Z = true) (a b : Addr) (u0 v0 v1 : Int32)  (h0 : Heap) (n0 : Nat) (Z0 : n0 ≤ h0.size) (O0 : Old Z n0 h0) (cs : Int32) (SC : Sta Z Z.heap "java/lang/String" "COMPACT_STRINGS" "Z" (.int cs)) (hcs : ¬ cs = (0 : Int32)) (ya yb : Addr) (ka kb : ClassId) (PA : Str Z h0 a ya ka (Int32.ofNat 1) [Value.int u0]) (PB : Str Z h0 b yb kb (Int32.ofNat 2) [Value.int v0, Value.int v1]) (z : Int32) (hz : z = 0 ∨ z = 1) (hP : z = 1 ↔ False) :
    Pays l Z (⟨"java/lang/String", "equals", "(Ljava/lang/Object;)Z"⟩ : MethodName) jdk_42_method_66_code 3 (some .boolean) [] ({ frames := 1, cells := 0, slots := 0, locals := 14 } : Room) #[(.ref a), (.ref b)] h0 (fun v h L => v = some (.int z) ∧ Fr n0 L ∧ h = h0) := by
  refine Pays.walk (plainFor_of_name pn_1) (fun m => ef_7 m a b ) ?_
  intro p e s m below meth c T0 X0 hx hby hml hown hnm hZ e0 hret hlk
  have N0 := Fr.nil n0
  have BA : Arf Z h0 ya .byte Value.int 1 (fun i => ([u0] : List Int32).getD i 0) := Arv.arf PA.2.2.2 (by decide) (own_lt1 rfl)
  have BB : Arf Z h0 yb .byte Value.int 2 (fun i => ([v0, v1] : List Int32).getD i 0) := Arv.arf PB.2.2.2 (by decide) (own_lt2 rfl rfl)
  refine Goes.on (T' := T0) (g' := (mkF m 2 #[.val (.ref a), .val (.ref b), .unset] [(.ref b), (.ref a)])) (fun _ k => XS.aloadN X0.here hx rfl (hb hby d11_0) rfl rfl (XS.aloadN X0.here hx rfl (hb hby d11_1) rfl rfl k)) ?_
  by_cases hc1 : ((.ref a) : Value) = (.ref b)
  · refine Goes.on (T' := T0) (g' := (mkF m 6 #[.val (.ref a), .val (.ref b), .unset] [(.int (1 : Int32))])) (fun _ k => XT.acmpNo X0.here hx rfl (hb hby d11_2) rfl rfl rfl (XT.aa_ne_f hc1) (XS.iconst X0.here hx rfl (hb hby d11_5) k)) ?_
    exact Goes.retB X0 hx hlk hret (Or.inr rfl) (hb hby d11_6) (by decide) (by decide) ⟨own_is1 hP (absurd (own_same PA PB (Value.ref.inj hc1) (n := 1) (by decide)).1 (by decide)), N0, e0⟩
  · refine Goes.on (T' := T0) (g' := (mkF m 8 #[.val (.ref a), .val (.ref b), .unset] [(.ref b)])) (fun _ k => XT.acmpYes X0.here hx rfl (pc0 := 2) (pc' := 7) rfl (hb hby d11_2) rfl rfl rfl (XT.aa_ne_t hc1) (by decide) (by decide) (XS.aloadN X0.here hx rfl (hb hby d11_7) rfl rfl k)) ?_
    obtain ⟨T2, X2, e2, st2⟩ := instY X0 hx hZ hown (own_w hw 57 rfl) e0 (Ins.self PB.1) (g := (mkF m 8 #[.val (.ref a), .val (.ref b), .unset] [(.ref b)])) rfl rfl (hb hby d11_8)
    refine Goes.on (T' := T2) (g' := (mkF m 15 #[.val (.ref a), .val (.ref b), .unset] [(.ref b)])) (fun _ k => st2 _ (XS.ifNo X2.here hx rfl (hb hby d11_11) rfl (XT.i0_eq_f (by decide)) (XS.aloadN X2.here hx rfl (hb hby d11_14) rfl rfl k))) ?_
    obtain ⟨T3, X3, e3, st3⟩ := castY X2 hx hZ hown (own_w hw 57 rfl) e2 (Ins.self PB.1) (g := (mkF m 15 #[.val (.ref a), .val (.ref b), .unset] [(.ref b)])) rfl rfl (hb hby d11_15)
    refine Goes.on (T' := T3) (g' := (mkF m 19 #[.val (.ref a), .val (.ref b), .val (.ref b)] [])) (fun _ k => st3 _ (XS.astoreN X3.here hx rfl (hb hby d11_18) rfl rfl (l' := #[.val (.ref a), .val (.ref b), .val (.ref b)]) rfl k)) ?_
    obtain ⟨T4, X4, e4, st4⟩ := getS (host := "") X3 hx hZ hown (own_w hw 21 rfl) Via.refl e3 (Sta.ext O0.2 SC) (g := (mkF m 19 #[.val (.ref a), .val (.ref b), .val (.ref b)] [])) rfl (hb hby d11_19)
    refine Goes.on (T' := T4) (g' := (mkF m 26 #[.val (.ref a), .val (.ref b), .val (.ref b)] [(.ref a)])) (fun _ k => st4 _ (XS.ifNo X4.here hx rfl (hb hby d11_22) rfl (XT.i0_eq_f hcs) (XS.aloadN X4.here hx rfl (hb hby d11_25) rfl rfl k))) ?_
    obtain ⟨T5, X5, e5, st5⟩ := getF X4 hx hZ hown (host := "") (Or.inl (own_w hw 33 rfl)) Via.refl e4 PA.2.1 (g := (mkF m 26 #[.val (.ref a), .val (.ref b), .val (.ref b)] [(.ref a)])) rfl rfl (hb hby d11_26)
    refine Goes.on (T' := T5) (g' := (mkF m 30 #[.val (.ref a), .val (.ref b), .val (.ref b)] [(.ref b), (.int (0 : Int32))])) (fun _ k => st5 _ (XS.aloadN X5.here hx rfl (hb hby d11_29) rfl rfl k)) ?_
    obtain ⟨T6, X6, e6, st6⟩ := getF X5 hx hZ hown (host := "") (Or.inl (own_w hw 33 rfl)) Via.refl e5 PB.2.1 (g := (mkF m 30 #[.val (.ref a), .val (.ref b), .val (.ref b)] [(.ref b), (.int (0 : Int32))])) rfl rfl (hb hby d11_30)
    refine Goes.on (T' := T6) (g' := (mkF m 37 #[.val (.ref a), .val (.ref b), .val (.ref b)] [(.ref a)])) (fun _ k => st6 _ (XS.icmpNo X6.here hx rfl (hb hby d11_33) rfl (XT.ii_ne_f (by decide)) (XS.aloadN X6.here hx rfl (hb hby d11_36) rfl rfl k))) ?_
    obtain ⟨T7, X7, e7, st7⟩ := getF X6 hx hZ hown (host := "") (Or.inl (own_w hw 35 rfl)) Via.refl e6 PA.2.2.1 (g := (mkF m 37 #[.val (.ref a), .val (.ref b), .val (.ref b)] [(.ref a)])) rfl rfl (hb hby d11_37)
    refine Goes.on (T' := T7) (g' := (mkF m 41 #[.val (.ref a), .val (.ref b), .val (.ref b)] [(.ref b), (.ref ya)])) (fun _ k => st7 _ (XS.aloadN X7.here hx rfl (hb hby d11_40) rfl rfl k)) ?_
    obtain ⟨T8, X8, e8, st8⟩ := getF X7 hx hZ hown (host := "") (Or.inl (own_w hw 35 rfl)) Via.refl e7 PB.2.2.1 (g := (mkF m 41 #[.val (.ref a), .val (.ref b), .val (.ref b)] [(.ref b), (.ref ya)])) rfl rfl (hb hby d11_41)
    refine Goes.on (T' := T8) (g' := (mkF m 44 #[.val (.ref a), .val (.ref b), .val (.ref b)] [(.ref yb), (.ref ya)])) (fun _ k => st8 _ k) ?_
    refine Goes.callS X8 hx hZ 0 hown (own_w hw 58 rfl) (own_w hw 59 rfl) (own_w hw 60 rfl) (own_w hw 61 rfl) (by decide) e8 (rmLess12 l Z a0 hw ya yb u0 v0 v1 h0 n0 Z0 BA BB z hz hP) (by decide) (by decide) (by decide) (by decide) rfl (by rw [hml]; rfl) (argsL := [(.ref ya), (.ref yb)]) (rest := []) rfl (lenOf pd_6 rfl) rfl (by show 2 * 0 + _ ≤ _; exact Nat.le_of_eq rfl) (hb hby d11_44) ?_
    intro v9 T9 L9 X9 hQ9
    obtain ⟨rfl, N9q, e9⟩ := hQ9
    have N9 := Fr.app N0 N9q
    show Goes p e below _ T9 (mkF m 47 #[.val (.ref a), .val (.ref b), .val (.ref b)] [(.int z)])
    by_cases hc10 : z = (0 : Int32)
    · refine Goes.on (T' := T9) (g' := (mkF m 55 #[.val (.ref a), .val (.ref b), .val (.ref b)] [(.int (0 : Int32))])) (fun _ k => XS.ifYes X9.here hx rfl (pc0 := 47) (pc' := 54) rfl (hb hby d11_47) rfl (XT.i0_eq_t hc10) (by decide) (by decide) (XS.iconst X9.here hx rfl (hb hby d11_54) k)) ?_
      exact Goes.retB X9 hx hlk hret (Or.inl rfl) (hb hby d11_55) (by decide) (by decide) ⟨own_z hc10, N9, e9⟩
    · refine Goes.on (T' := T9) (g' := (mkF m 55 #[.val (.ref a), .val (.ref b), .val (.ref b)] [(.int (1 : Int32))])) (fun _ k => XS.ifNo X9.here hx rfl (hb hby d11_47) rfl (XT.i0_eq_f hc10) (XS.iconst X9.here hx rfl (hb hby d11_50) (XS.goto X9.here hx rfl (pc0 := 51) (pc' := 55) rfl (hb hby d11_51) (by decide) (by decide) k))) ?_
      exact Goes.retB X9 hx hlk hret (Or.inr rfl) (hb hby d11_55) (by decide) (by decide) ⟨own_nz hz hc10, N9, e9⟩
set_option maxRecDepth 65536 in
set_option maxHeartbeats 40000000 in
theorem rmLess21 (l : Launch) (Z : State) (a0 : Array Value) (hw : ∀ d ∈ tables_1, d.before a0 Z = true) (a b : Addr) (u0 u1 v0 : Int32)  (h0 : Heap) (n0 : Nat) (Z0 : n0 ≤ h0.size) (B0 : Arf Z h0 a .byte Value.int 2 (fun i => ([u0, u1] : List Int32).getD i 0)) (B1 : Arf Z h0 b .byte Value.int 1 (fun i => ([v0] : List Int32).getD i 0)) (z : Int32) (hz : z = 0 ∨ z = 1) (hP : z = 1 ↔ False) :
    Pays l Z (⟨"java/lang/StringLatin1", "equals", "([B[B)Z"⟩ : MethodName) jdk_43_method_13_code 3 (some .boolean) [] ({ frames := 0, cells := 0, slots := 0, locals := 0 } : Room) #[(.ref a), (.ref b)] h0 (fun v h L => v = some (.int z) ∧ Fr n0 L ∧ h = h0) := by
  refine Pays.walk (plainFor_of_name pn_2) (fun m => ef_7 m a b ) ?_
  intro p e s m below meth c T0 X0 hx hby hml hown hnm hZ e0 hret hlk
  have N0 := Fr.nil n0
  refine Goes.on (T' := T0) (g' := (mkF m 35 #[.val (.ref a), .val (.ref b), .unset] [(.int (0 : Int32))])) (fun _ k => XS.aloadN X0.here hx rfl (hb hby d12_0) rfl rfl (aLenm X0 hx hZ e0 B0 (hb hby d12_1) (XS.aloadN X0.here hx rfl (hb hby d12_2) rfl rfl (aLenm X0 hx hZ e0 B1 (hb hby d12_3) (XS.icmpYes X0.here hx rfl (pc0 := 4) (pc' := 34) rfl (hb hby d12_4) rfl (XT.ii_ne_t (by decide)) (by decide) (by decide) (XS.iconst X0.here hx rfl (hb hby d12_34) k)))))) ?_
  exact Goes.retB X0 hx hlk hret (Or.inl rfl) (hb hby d12_35) (by decide) (by decide) ⟨own_is0 hz hP (fun q => q), N0, e0⟩
set_option maxRecDepth 65536 in
set_option maxHeartbeats 40000000 in
theorem rmEqss21 (l : Launch) (Z : State) (a0 : Array Value) (hw : ∀ d ∈ tables_1, d.before a0 Z = true) (a b : Addr) (u0 u1 v0 : Int32)  (h0 : Heap) (n0 : Nat) (Z0 : n0 ≤ h0.size) (O0 : Old Z n0 h0) (cs : Int32) (SC : Sta Z Z.heap "java/lang/String" "COMPACT_STRINGS" "Z" (.int cs)) (hcs : ¬ cs = (0 : Int32)) (ya yb : Addr) (ka kb : ClassId) (PA : Str Z h0 a ya ka (Int32.ofNat 2) [Value.int u0, Value.int u1]) (PB : Str Z h0 b yb kb (Int32.ofNat 1) [Value.int v0]) (z : Int32) (hz : z = 0 ∨ z = 1) (hP : z = 1 ↔ False) :
    Pays l Z (⟨"java/lang/String", "equals", "(Ljava/lang/Object;)Z"⟩ : MethodName) jdk_42_method_66_code 3 (some .boolean) [] ({ frames := 1, cells := 0, slots := 0, locals := 14 } : Room) #[(.ref a), (.ref b)] h0 (fun v h L => v = some (.int z) ∧ Fr n0 L ∧ h = h0) := by
  refine Pays.walk (plainFor_of_name pn_1) (fun m => ef_7 m a b ) ?_
  intro p e s m below meth c T0 X0 hx hby hml hown hnm hZ e0 hret hlk
  have N0 := Fr.nil n0
  have BA : Arf Z h0 ya .byte Value.int 2 (fun i => ([u0, u1] : List Int32).getD i 0) := Arv.arf PA.2.2.2 (by decide) (own_lt2 rfl rfl)
  have BB : Arf Z h0 yb .byte Value.int 1 (fun i => ([v0] : List Int32).getD i 0) := Arv.arf PB.2.2.2 (by decide) (own_lt1 rfl)
  refine Goes.on (T' := T0) (g' := (mkF m 2 #[.val (.ref a), .val (.ref b), .unset] [(.ref b), (.ref a)])) (fun _ k => XS.aloadN X0.here hx rfl (hb hby d11_0) rfl rfl (XS.aloadN X0.here hx rfl (hb hby d11_1) rfl rfl k)) ?_
  by_cases hc1 : ((.ref a) : Value) = (.ref b)
  · refine Goes.on (T' := T0) (g' := (mkF m 6 #[.val (.ref a), .val (.ref b), .unset] [(.int (1 : Int32))])) (fun _ k => XT.acmpNo X0.here hx rfl (hb hby d11_2) rfl rfl rfl (XT.aa_ne_f hc1) (XS.iconst X0.here hx rfl (hb hby d11_5) k)) ?_
    exact Goes.retB X0 hx hlk hret (Or.inr rfl) (hb hby d11_6) (by decide) (by decide) ⟨own_is1 hP (absurd (own_same PA PB (Value.ref.inj hc1) (n := 2) (by decide)).1 (by decide)), N0, e0⟩
  · refine Goes.on (T' := T0) (g' := (mkF m 8 #[.val (.ref a), .val (.ref b), .unset] [(.ref b)])) (fun _ k => XT.acmpYes X0.here hx rfl (pc0 := 2) (pc' := 7) rfl (hb hby d11_2) rfl rfl rfl (XT.aa_ne_t hc1) (by decide) (by decide) (XS.aloadN X0.here hx rfl (hb hby d11_7) rfl rfl k)) ?_
    obtain ⟨T2, X2, e2, st2⟩ := instY X0 hx hZ hown (own_w hw 57 rfl) e0 (Ins.self PB.1) (g := (mkF m 8 #[.val (.ref a), .val (.ref b), .unset] [(.ref b)])) rfl rfl (hb hby d11_8)
    refine Goes.on (T' := T2) (g' := (mkF m 15 #[.val (.ref a), .val (.ref b), .unset] [(.ref b)])) (fun _ k => st2 _ (XS.ifNo X2.here hx rfl (hb hby d11_11) rfl (XT.i0_eq_f (by decide)) (XS.aloadN X2.here hx rfl (hb hby d11_14) rfl rfl k))) ?_
    obtain ⟨T3, X3, e3, st3⟩ := castY X2 hx hZ hown (own_w hw 57 rfl) e2 (Ins.self PB.1) (g := (mkF m 15 #[.val (.ref a), .val (.ref b), .unset] [(.ref b)])) rfl rfl (hb hby d11_15)
    refine Goes.on (T' := T3) (g' := (mkF m 19 #[.val (.ref a), .val (.ref b), .val (.ref b)] [])) (fun _ k => st3 _ (XS.astoreN X3.here hx rfl (hb hby d11_18) rfl rfl (l' := #[.val (.ref a), .val (.ref b), .val (.ref b)]) rfl k)) ?_
    obtain ⟨T4, X4, e4, st4⟩ := getS (host := "") X3 hx hZ hown (own_w hw 21 rfl) Via.refl e3 (Sta.ext O0.2 SC) (g := (mkF m 19 #[.val (.ref a), .val (.ref b), .val (.ref b)] [])) rfl (hb hby d11_19)
    refine Goes.on (T' := T4) (g' := (mkF m 26 #[.val (.ref a), .val (.ref b), .val (.ref b)] [(.ref a)])) (fun _ k => st4 _ (XS.ifNo X4.here hx rfl (hb hby d11_22) rfl (XT.i0_eq_f hcs) (XS.aloadN X4.here hx rfl (hb hby d11_25) rfl rfl k))) ?_
    obtain ⟨T5, X5, e5, st5⟩ := getF X4 hx hZ hown (host := "") (Or.inl (own_w hw 33 rfl)) Via.refl e4 PA.2.1 (g := (mkF m 26 #[.val (.ref a), .val (.ref b), .val (.ref b)] [(.ref a)])) rfl rfl (hb hby d11_26)
    refine Goes.on (T' := T5) (g' := (mkF m 30 #[.val (.ref a), .val (.ref b), .val (.ref b)] [(.ref b), (.int (0 : Int32))])) (fun _ k => st5 _ (XS.aloadN X5.here hx rfl (hb hby d11_29) rfl rfl k)) ?_
    obtain ⟨T6, X6, e6, st6⟩ := getF X5 hx hZ hown (host := "") (Or.inl (own_w hw 33 rfl)) Via.refl e5 PB.2.1 (g := (mkF m 30 #[.val (.ref a), .val (.ref b), .val (.ref b)] [(.ref b), (.int (0 : Int32))])) rfl rfl (hb hby d11_30)
    refine Goes.on (T' := T6) (g' := (mkF m 37 #[.val (.ref a), .val (.ref b), .val (.ref b)] [(.ref a)])) (fun _ k => st6 _ (XS.icmpNo X6.here hx rfl (hb hby d11_33) rfl (XT.ii_ne_f (by decide)) (XS.aloadN X6.here hx rfl (hb hby d11_36) rfl rfl k))) ?_
    obtain ⟨T7, X7, e7, st7⟩ := getF X6 hx hZ hown (host := "") (Or.inl (own_w hw 35 rfl)) Via.refl e6 PA.2.2.1 (g := (mkF m 37 #[.val (.ref a), .val (.ref b), .val (.ref b)] [(.ref a)])) rfl rfl (hb hby d11_37)
    refine Goes.on (T' := T7) (g' := (mkF m 41 #[.val (.ref a), .val (.ref b), .val (.ref b)] [(.ref b), (.ref ya)])) (fun _ k => st7 _ (XS.aloadN X7.here hx rfl (hb hby d11_40) rfl rfl k)) ?_
    obtain ⟨T8, X8, e8, st8⟩ := getF X7 hx hZ hown (host := "") (Or.inl (own_w hw 35 rfl)) Via.refl e7 PB.2.2.1 (g := (mkF m 41 #[.val (.ref a), .val (.ref b), .val (.ref b)] [(.ref b), (.ref ya)])) rfl rfl (hb hby d11_41)
    refine Goes.on (T' := T8) (g' := (mkF m 44 #[.val (.ref a), .val (.ref b), .val (.ref b)] [(.ref yb), (.ref ya)])) (fun _ k => st8 _ k) ?_
    refine Goes.callS X8 hx hZ 0 hown (own_w hw 58 rfl) (own_w hw 59 rfl) (own_w hw 60 rfl) (own_w hw 61 rfl) (by decide) e8 (rmLess21 l Z a0 hw ya yb u0 u1 v0 h0 n0 Z0 BA BB z hz hP) (by decide) (by decide) (by decide) (by decide) rfl (by rw [hml]; rfl) (argsL := [(.ref ya), (.ref yb)]) (rest := []) rfl (lenOf pd_6 rfl) rfl (by show 2 * 0 + _ ≤ _; exact Nat.le_of_eq rfl) (hb hby d11_44) ?_
    intro v9 T9 L9 X9 hQ9
    obtain ⟨rfl, N9q, e9⟩ := hQ9
    have N9 := Fr.app N0 N9q
    show Goes p e below _ T9 (mkF m 47 #[.val (.ref a), .val (.ref b), .val (.ref b)] [(.int z)])
    by_cases hc10 : z = (0 : Int32)
    · refine Goes.on (T' := T9) (g' := (mkF m 55 #[.val (.ref a), .val (.ref b), .val (.ref b)] [(.int (0 : Int32))])) (fun _ k => XS.ifYes X9.here hx rfl (pc0 := 47) (pc' := 54) rfl (hb hby d11_47) rfl (XT.i0_eq_t hc10) (by decide) (by decide) (XS.iconst X9.here hx rfl (hb hby d11_54) k)) ?_
      exact Goes.retB X9 hx hlk hret (Or.inl rfl) (hb hby d11_55) (by decide) (by decide) ⟨own_z hc10, N9, e9⟩
    · refine Goes.on (T' := T9) (g' := (mkF m 55 #[.val (.ref a), .val (.ref b), .val (.ref b)] [(.int (1 : Int32))])) (fun _ k => XS.ifNo X9.here hx rfl (hb hby d11_47) rfl (XT.i0_eq_f hc10) (XS.iconst X9.here hx rfl (hb hby d11_50) (XS.goto X9.here hx rfl (pc0 := 51) (pc' := 55) rfl (hb hby d11_51) (by decide) (by decide) k))) ?_
      exact Goes.retB X9 hx hlk hret (Or.inr rfl) (hb hby d11_55) (by decide) (by decide) ⟨own_nz hz hc10, N9, e9⟩
set_option maxRecDepth 65536 in
set_option maxHeartbeats 40000000 in
theorem rmLess22 (l : Launch) (Z : State) (a0 : Array Value) (hw : ∀ d ∈ tables_1, d.before a0 Z = true) (a b : Addr) (u0 u1 v0 v1 : Int32)  (h0 : Heap) (n0 : Nat) (Z0 : n0 ≤ h0.size) (B0 : Arf Z h0 a .byte Value.int 2 (fun i => ([u0, u1] : List Int32).getD i 0)) (B1 : Arf Z h0 b .byte Value.int 2 (fun i => ([v0, v1] : List Int32).getD i 0)) (z : Int32) (hz : z = 0 ∨ z = 1) (hP : z = 1 ↔ u0 = v0 ∧ u1 = v1) :
    Pays l Z (⟨"java/lang/StringLatin1", "equals", "([B[B)Z"⟩ : MethodName) jdk_43_method_13_code 3 (some .boolean) [] ({ frames := 0, cells := 0, slots := 0, locals := 0 } : Room) #[(.ref a), (.ref b)] h0 (fun v h L => v = some (.int z) ∧ Fr n0 L ∧ h = h0) := by
  refine Pays.walk (plainFor_of_name pn_2) (fun m => ef_7 m a b ) ?_
  intro p e s m below meth c T0 X0 hx hby hml hown hnm hZ e0 hret hlk
  have N0 := Fr.nil n0
  refine Goes.on (T' := T0) (g' := (mkF m 16 #[.val (.ref a), .val (.ref b), .val (.int (0 : Int32))] [(.ref a)])) (fun _ k => XS.aloadN X0.here hx rfl (hb hby d12_0) rfl rfl (aLenm X0 hx hZ e0 B0 (hb hby d12_1) (XS.aloadN X0.here hx rfl (hb hby d12_2) rfl rfl (aLenm X0 hx hZ e0 B1 (hb hby d12_3) (XS.icmpNo X0.here hx rfl (hb hby d12_4) rfl (XT.ii_ne_f (by decide)) (XS.iconst X0.here hx rfl (hb hby d12_7) (XS.istoreN X0.here hx rfl (hb hby d12_8) rfl (l' := #[.val (.ref a), .val (.ref b), .val (.int (0 : Int32))]) rfl (XS.iloadN X0.here hx rfl (hb hby d12_9) rfl (XS.aloadN X0.here hx rfl (hb hby d12_10) rfl rfl (aLenm X0 hx hZ e0 B0 (hb hby d12_11) (XS.icmpNo X0.here hx rfl (hb hby d12_12) rfl (XT.ii_ge_f (by decide)) (XS.aloadN X0.here hx rfl (hb hby d12_15) rfl rfl k)))))))))))) ?_
  refine Goes.on (T' := T0) (g' := (mkF m 21 #[.val (.ref a), .val (.ref b), .val (.int (0 : Int32))] [(.int v0), (.int u0)])) (fun _ k => XS.iloadN X0.here hx rfl (hb hby d12_16) rfl (ldYm X0 hx hZ e0 B0 (by decide) (hb hby d12_17) (XS.aloadN X0.here hx rfl (hb hby d12_18) rfl rfl (XS.iloadN X0.here hx rfl (hb hby d12_19) rfl (ldYm X0 hx hZ e0 B1 (by decide) (hb hby d12_20) k))))) ?_
  by_cases hc6 : u0 = v0
  · refine Goes.on (T' := T0) (g' := (mkF m 20 #[.val (.ref a), .val (.ref b), .val (.int (1 : Int32))] [(.int (1 : Int32)), (.ref b), (.int u1)])) (fun _ k => XS.icmpYes X0.here hx rfl (pc0 := 21) (pc' := 26) rfl (hb hby d12_21) rfl (XT.ii_eq_t hc6) (by decide) (by decide) (XT.iincV X0.here hx rfl (1 : Int32) (hb hby d12_26) (by decide) rfl (l' := #[.val (.ref a), .val (.ref b), .val (.int (1 : Int32))]) rfl (XS.goto X0.here hx rfl (pc0 := 29) (pc' := 9) rfl (hb hby d12_29) (by decide) (by decide) (XS.iloadN X0.here hx rfl (hb hby d12_9) rfl (XS.aloadN X0.here hx rfl (hb hby d12_10) rfl rfl (aLenm X0 hx hZ e0 B0 (hb hby d12_11) (XS.icmpNo X0.here hx rfl (hb hby d12_12) rfl (XT.ii_ge_f (by decide)) (XS.aloadN X0.here hx rfl (hb hby d12_15) rfl rfl (XS.iloadN X0.here hx rfl (hb hby d12_16) rfl (ldYm X0 hx hZ e0 B0 (by decide) (hb hby d12_17) (XS.aloadN X0.here hx rfl (hb hby d12_18) rfl rfl (XS.iloadN X0.here hx rfl (hb hby d12_19) rfl k)))))))))))) ?_
    refine Goes.on (T' := T0) (g' := (mkF m 21 #[.val (.ref a), .val (.ref b), .val (.int (1 : Int32))] [(.int v1), (.int u1)])) (fun _ k => ldYm X0 hx hZ e0 B1 (by decide) (hb hby d12_20) k) ?_
    by_cases hc10 : u1 = v1
    · refine Goes.on (T' := T0) (g' := (mkF m 33 #[.val (.ref a), .val (.ref b), .val (.int (2 : Int32))] [(.int (1 : Int32))])) (fun _ k => XS.icmpYes X0.here hx rfl (pc0 := 21) (pc' := 26) rfl (hb hby d12_21) rfl (XT.ii_eq_t hc10) (by decide) (by decide) (XT.iincV X0.here hx rfl (1 : Int32) (hb hby d12_26) (by decide) rfl (l' := #[.val (.ref a), .val (.ref b), .val (.int (2 : Int32))]) rfl (XS.goto X0.here hx rfl (pc0 := 29) (pc' := 9) rfl (hb hby d12_29) (by decide) (by decide) (XS.iloadN X0.here hx rfl (hb hby d12_9) rfl (XS.aloadN X0.here hx rfl (hb hby d12_10) rfl rfl (aLenm X0 hx hZ e0 B0 (hb hby d12_11) (XS.icmpYes X0.here hx rfl (pc0 := 12) (pc' := 32) rfl (hb hby d12_12) rfl (XT.ii_ge_t (by decide)) (by decide) (by decide) (XS.iconst X0.here hx rfl (hb hby d12_32) k)))))))) ?_
      exact Goes.retB X0 hx hlk hret (Or.inr rfl) (hb hby d12_33) (by decide) (by decide) ⟨own_is1 hP ⟨hc6, hc10⟩, N0, e0⟩
    · refine Goes.on (T' := T0) (g' := (mkF m 25 #[.val (.ref a), .val (.ref b), .val (.int (1 : Int32))] [(.int (0 : Int32))])) (fun _ k => XS.icmpNo X0.here hx rfl (hb hby d12_21) rfl (XT.ii_eq_f hc10) (XS.iconst X0.here hx rfl (hb hby d12_24) k)) ?_
      exact Goes.retB X0 hx hlk hret (Or.inl rfl) (hb hby d12_25) (by decide) (by decide) ⟨own_is0 hz hP (fun q => hc10 q.2), N0, e0⟩
  · refine Goes.on (T' := T0) (g' := (mkF m 25 #[.val (.ref a), .val (.ref b), .val (.int (0 : Int32))] [(.int (0 : Int32))])) (fun _ k => XS.icmpNo X0.here hx rfl (hb hby d12_21) rfl (XT.ii_eq_f hc6) (XS.iconst X0.here hx rfl (hb hby d12_24) k)) ?_
    exact Goes.retB X0 hx hlk hret (Or.inl rfl) (hb hby d12_25) (by decide) (by decide) ⟨own_is0 hz hP (fun q => hc6 q.1), N0, e0⟩
set_option maxRecDepth 65536 in
set_option maxHeartbeats 40000000 in
theorem rmEqss22 (l : Launch) (Z : State) (a0 : Array Value) (hw : ∀ d ∈ tables_1, d.before a0 Z = true) (a b : Addr) (u0 u1 v0 v1 : Int32)  (h0 : Heap) (n0 : Nat) (Z0 : n0 ≤ h0.size) (O0 : Old Z n0 h0) (cs : Int32) (SC : Sta Z Z.heap "java/lang/String" "COMPACT_STRINGS" "Z" (.int cs)) (hcs : ¬ cs = (0 : Int32)) (ya yb : Addr) (ka kb : ClassId) (PA : Str Z h0 a ya ka (Int32.ofNat 2) [Value.int u0, Value.int u1]) (PB : Str Z h0 b yb kb (Int32.ofNat 2) [Value.int v0, Value.int v1]) (z : Int32) (hz : z = 0 ∨ z = 1) (hP : z = 1 ↔ u0 = v0 ∧ u1 = v1) :
    Pays l Z (⟨"java/lang/String", "equals", "(Ljava/lang/Object;)Z"⟩ : MethodName) jdk_42_method_66_code 3 (some .boolean) [] ({ frames := 1, cells := 0, slots := 0, locals := 14 } : Room) #[(.ref a), (.ref b)] h0 (fun v h L => v = some (.int z) ∧ Fr n0 L ∧ h = h0) := by
  refine Pays.walk (plainFor_of_name pn_1) (fun m => ef_7 m a b ) ?_
  intro p e s m below meth c T0 X0 hx hby hml hown hnm hZ e0 hret hlk
  have N0 := Fr.nil n0
  have BA : Arf Z h0 ya .byte Value.int 2 (fun i => ([u0, u1] : List Int32).getD i 0) := Arv.arf PA.2.2.2 (by decide) (own_lt2 rfl rfl)
  have BB : Arf Z h0 yb .byte Value.int 2 (fun i => ([v0, v1] : List Int32).getD i 0) := Arv.arf PB.2.2.2 (by decide) (own_lt2 rfl rfl)
  refine Goes.on (T' := T0) (g' := (mkF m 2 #[.val (.ref a), .val (.ref b), .unset] [(.ref b), (.ref a)])) (fun _ k => XS.aloadN X0.here hx rfl (hb hby d11_0) rfl rfl (XS.aloadN X0.here hx rfl (hb hby d11_1) rfl rfl k)) ?_
  by_cases hc1 : ((.ref a) : Value) = (.ref b)
  · refine Goes.on (T' := T0) (g' := (mkF m 6 #[.val (.ref a), .val (.ref b), .unset] [(.int (1 : Int32))])) (fun _ k => XT.acmpNo X0.here hx rfl (hb hby d11_2) rfl rfl rfl (XT.aa_ne_f hc1) (XS.iconst X0.here hx rfl (hb hby d11_5) k)) ?_
    exact Goes.retB X0 hx hlk hret (Or.inr rfl) (hb hby d11_6) (by decide) (by decide) ⟨own_is1 hP (own_s2 (own_same PA PB (Value.ref.inj hc1) (by decide)).2), N0, e0⟩
  · refine Goes.on (T' := T0) (g' := (mkF m 8 #[.val (.ref a), .val (.ref b), .unset] [(.ref b)])) (fun _ k => XT.acmpYes X0.here hx rfl (pc0 := 2) (pc' := 7) rfl (hb hby d11_2) rfl rfl rfl (XT.aa_ne_t hc1) (by decide) (by decide) (XS.aloadN X0.here hx rfl (hb hby d11_7) rfl rfl k)) ?_
    obtain ⟨T2, X2, e2, st2⟩ := instY X0 hx hZ hown (own_w hw 57 rfl) e0 (Ins.self PB.1) (g := (mkF m 8 #[.val (.ref a), .val (.ref b), .unset] [(.ref b)])) rfl rfl (hb hby d11_8)
    refine Goes.on (T' := T2) (g' := (mkF m 15 #[.val (.ref a), .val (.ref b), .unset] [(.ref b)])) (fun _ k => st2 _ (XS.ifNo X2.here hx rfl (hb hby d11_11) rfl (XT.i0_eq_f (by decide)) (XS.aloadN X2.here hx rfl (hb hby d11_14) rfl rfl k))) ?_
    obtain ⟨T3, X3, e3, st3⟩ := castY X2 hx hZ hown (own_w hw 57 rfl) e2 (Ins.self PB.1) (g := (mkF m 15 #[.val (.ref a), .val (.ref b), .unset] [(.ref b)])) rfl rfl (hb hby d11_15)
    refine Goes.on (T' := T3) (g' := (mkF m 19 #[.val (.ref a), .val (.ref b), .val (.ref b)] [])) (fun _ k => st3 _ (XS.astoreN X3.here hx rfl (hb hby d11_18) rfl rfl (l' := #[.val (.ref a), .val (.ref b), .val (.ref b)]) rfl k)) ?_
    obtain ⟨T4, X4, e4, st4⟩ := getS (host := "") X3 hx hZ hown (own_w hw 21 rfl) Via.refl e3 (Sta.ext O0.2 SC) (g := (mkF m 19 #[.val (.ref a), .val (.ref b), .val (.ref b)] [])) rfl (hb hby d11_19)
    refine Goes.on (T' := T4) (g' := (mkF m 26 #[.val (.ref a), .val (.ref b), .val (.ref b)] [(.ref a)])) (fun _ k => st4 _ (XS.ifNo X4.here hx rfl (hb hby d11_22) rfl (XT.i0_eq_f hcs) (XS.aloadN X4.here hx rfl (hb hby d11_25) rfl rfl k))) ?_
    obtain ⟨T5, X5, e5, st5⟩ := getF X4 hx hZ hown (host := "") (Or.inl (own_w hw 33 rfl)) Via.refl e4 PA.2.1 (g := (mkF m 26 #[.val (.ref a), .val (.ref b), .val (.ref b)] [(.ref a)])) rfl rfl (hb hby d11_26)
    refine Goes.on (T' := T5) (g' := (mkF m 30 #[.val (.ref a), .val (.ref b), .val (.ref b)] [(.ref b), (.int (0 : Int32))])) (fun _ k => st5 _ (XS.aloadN X5.here hx rfl (hb hby d11_29) rfl rfl k)) ?_
    obtain ⟨T6, X6, e6, st6⟩ := getF X5 hx hZ hown (host := "") (Or.inl (own_w hw 33 rfl)) Via.refl e5 PB.2.1 (g := (mkF m 30 #[.val (.ref a), .val (.ref b), .val (.ref b)] [(.ref b), (.int (0 : Int32))])) rfl rfl (hb hby d11_30)
    refine Goes.on (T' := T6) (g' := (mkF m 37 #[.val (.ref a), .val (.ref b), .val (.ref b)] [(.ref a)])) (fun _ k => st6 _ (XS.icmpNo X6.here hx rfl (hb hby d11_33) rfl (XT.ii_ne_f (by decide)) (XS.aloadN X6.here hx rfl (hb hby d11_36) rfl rfl k))) ?_
    obtain ⟨T7, X7, e7, st7⟩ := getF X6 hx hZ hown (host := "") (Or.inl (own_w hw 35 rfl)) Via.refl e6 PA.2.2.1 (g := (mkF m 37 #[.val (.ref a), .val (.ref b), .val (.ref b)] [(.ref a)])) rfl rfl (hb hby d11_37)
    refine Goes.on (T' := T7) (g' := (mkF m 41 #[.val (.ref a), .val (.ref b), .val (.ref b)] [(.ref b), (.ref ya)])) (fun _ k => st7 _ (XS.aloadN X7.here hx rfl (hb hby d11_40) rfl rfl k)) ?_
    obtain ⟨T8, X8, e8, st8⟩ := getF X7 hx hZ hown (host := "") (Or.inl (own_w hw 35 rfl)) Via.refl e7 PB.2.2.1 (g := (mkF m 41 #[.val (.ref a), .val (.ref b), .val (.ref b)] [(.ref b), (.ref ya)])) rfl rfl (hb hby d11_41)
    refine Goes.on (T' := T8) (g' := (mkF m 44 #[.val (.ref a), .val (.ref b), .val (.ref b)] [(.ref yb), (.ref ya)])) (fun _ k => st8 _ k) ?_
    refine Goes.callS X8 hx hZ 0 hown (own_w hw 58 rfl) (own_w hw 59 rfl) (own_w hw 60 rfl) (own_w hw 61 rfl) (by decide) e8 (rmLess22 l Z a0 hw ya yb u0 u1 v0 v1 h0 n0 Z0 BA BB z hz hP) (by decide) (by decide) (by decide) (by decide) rfl (by rw [hml]; rfl) (argsL := [(.ref ya), (.ref yb)]) (rest := []) rfl (lenOf pd_6 rfl) rfl (by show 2 * 0 + _ ≤ _; exact Nat.le_of_eq rfl) (hb hby d11_44) ?_
    intro v9 T9 L9 X9 hQ9
    obtain ⟨rfl, N9q, e9⟩ := hQ9
    have N9 := Fr.app N0 N9q
    show Goes p e below _ T9 (mkF m 47 #[.val (.ref a), .val (.ref b), .val (.ref b)] [(.int z)])
    by_cases hc10 : z = (0 : Int32)
    · refine Goes.on (T' := T9) (g' := (mkF m 55 #[.val (.ref a), .val (.ref b), .val (.ref b)] [(.int (0 : Int32))])) (fun _ k => XS.ifYes X9.here hx rfl (pc0 := 47) (pc' := 54) rfl (hb hby d11_47) rfl (XT.i0_eq_t hc10) (by decide) (by decide) (XS.iconst X9.here hx rfl (hb hby d11_54) k)) ?_
      exact Goes.retB X9 hx hlk hret (Or.inl rfl) (hb hby d11_55) (by decide) (by decide) ⟨own_z hc10, N9, e9⟩
    · refine Goes.on (T' := T9) (g' := (mkF m 55 #[.val (.ref a), .val (.ref b), .val (.ref b)] [(.int (1 : Int32))])) (fun _ k => XS.ifNo X9.here hx rfl (hb hby d11_47) rfl (XT.i0_eq_f hc10) (XS.iconst X9.here hx rfl (hb hby d11_50) (XS.goto X9.here hx rfl (pc0 := 51) (pc' := 55) rfl (hb hby d11_51) (by decide) (by decide) k))) ?_
      exact Goes.retB X9 hx hlk hret (Or.inr rfl) (hb hby d11_55) (by decide) (by decide) ⟨own_nz hz hc10, N9, e9⟩
theorem d23_0 : decode prog_13_method_4_code 0 = .ok (.aload_n 1, 1) := by decide +kernel
theorem d23_1 : decode prog_13_method_4_code 1 = .ok (.instanceof 35, 3) := by decide +kernel
theorem d23_4 : decode prog_13_method_4_code 4 = .ok (.ifCond .eq 39, 3) := by decide +kernel
theorem d23_7 : decode prog_13_method_4_code 7 = .ok (.aload_n 1, 1) := by decide +kernel
theorem d23_8 : decode prog_13_method_4_code 8 = .ok (.checkcast 35, 3) := by decide +kernel
theorem d23_11 : decode prog_13_method_4_code 11 = .ok (.getfield 34, 3) := by decide +kernel
theorem d23_14 : decode prog_13_method_4_code 14 = .ok (.aload_n 0, 1) := by decide +kernel
theorem d23_15 : decode prog_13_method_4_code 15 = .ok (.getfield 34, 3) := by decide +kernel
theorem d23_18 : decode prog_13_method_4_code 18 = .ok (.invokevirtual 15, 3) := by decide +kernel
theorem d23_21 : decode prog_13_method_4_code 21 = .ok (.ifCond .eq 22, 3) := by decide +kernel
theorem d23_24 : decode prog_13_method_4_code 24 = .ok (.aload_n 1, 1) := by decide +kernel
theorem d23_25 : decode prog_13_method_4_code 25 = .ok (.checkcast 35, 3) := by decide +kernel
theorem d23_28 : decode prog_13_method_4_code 28 = .ok (.getfield 40, 3) := by decide +kernel
theorem d23_31 : decode prog_13_method_4_code 31 = .ok (.aload_n 0, 1) := by decide +kernel
theorem d23_32 : decode prog_13_method_4_code 32 = .ok (.getfield 40, 3) := by decide +kernel
theorem d23_35 : decode prog_13_method_4_code 35 = .ok (.lcmp, 1) := by decide +kernel
theorem d23_36 : decode prog_13_method_4_code 36 = .ok (.ifCond .ne 7, 3) := by decide +kernel
theorem d23_39 : decode prog_13_method_4_code 39 = .ok (.iconst 1, 1) := by decide +kernel
theorem d23_40 : decode prog_13_method_4_code 40 = .ok (.goto 4, 3) := by decide +kernel
theorem d23_44 : decode prog_13_method_4_code 44 = .ok (.ireturn, 1) := by decide +kernel
theorem d23_43 : decode prog_13_method_4_code 43 = .ok (.iconst 0, 1) := by decide +kernel
theorem ef_9 (m : MethodId) (x0 : Addr) (x1 : Addr) : entryFrame m #[(.ref x0), (.ref x1)] 2 = mkF m 0 #[.val (.ref x0), .val (.ref x1)] [] := by first | (simp [entryFrame, mkF, argsToLocals, Value.category]; done) | rfl
set_option maxRecDepth 65536 in
set_option maxHeartbeats 40000000 in
theorem rmOe11 (l : Launch) (Z : State) (a0 : Array Value) (hw : ∀ d ∈ tables_1, d.before a0 Z = true) (a b : Addr) (u0 v0 : Int32) (h0 : Heap) (n0 : Nat) (Z0 : n0 ≤ h0.size) (O0 : Old Z n0 h0) (cs : Int32) (SC : Sta Z Z.heap "java/lang/String" "COMPACT_STRINGS" "Z" (.int cs)) (hcs : ¬ cs = (0 : Int32)) (sa sb ya yb : Addr) (ka kb : ClassId) (o1 o2 : Int64) (E1 : Exa Z h0 a "com/example/narada/narada/ObjectAddress") (V1 : Fld Z h0 a "com/example/narada/narada/ObjectAddress" "endpoint" "Ljava/lang/String;" (.ref sa)) (W1 : Fld Z h0 a "com/example/narada/narada/ObjectAddress" "object" "J" (.long o1)) (E2 : Exa Z h0 b "com/example/narada/narada/ObjectAddress") (V2 : Fld Z h0 b "com/example/narada/narada/ObjectAddress" "endpoint" "Ljava/lang/String;" (.ref sb)) (W2 : Fld Z h0 b "com/example/narada/narada/ObjectAddress" "object" "J" (.long o2)) (PA : Str Z h0 sa ya ka (Int32.ofNat 1) [Value.int u0]) (PB : Str Z h0 sb yb kb (Int32.ofNat 1) [Value.int v0]) (z : Int32) (hz : z = 0 ∨ z = 1) (hP : z = 1 ↔ (v0 = u0) ∧ o2 = o1) :
    Pays l Z (⟨"com/example/narada/narada/ObjectAddress", "equals", "(Ljava/lang/Object;)Z"⟩ : MethodName) prog_13_method_4_code 2 (some .boolean) [] ({ frames := 2, cells := 0, slots := 0, locals := 28 } : Room) #[(.ref a), (.ref b)] h0 (fun v h L => v = some (.int z) ∧ Fr n0 L ∧ h = h0) := by
  refine Pays.walk (plainFor_of_name pn_3) (fun m => ef_9 m a b ) ?_
  intro p e s m below meth c T0 X0 hx hby hml hown hnm hZ e0 hret hlk
  have N0 := Fr.nil n0
  by_cases hc1 : v0 = u0
  · refine Goes.on (T' := T0) (g' := (mkF m 1 #[.val (.ref a), .val (.ref b)] [(.ref b)])) (fun _ k => XS.aloadN X0.here hx rfl (hb hby d23_0) rfl rfl k) ?_
    obtain ⟨T2, X2, e2, st2⟩ := instY X0 hx hZ hown (own_w hw 113 rfl) e0 (Ins.self E2) (g := (mkF m 1 #[.val (.ref a), .val (.ref b)] [(.ref b)])) rfl rfl (hb hby d23_1)
    refine Goes.on (T' := T2) (g' := (mkF m 8 #[.val (.ref a), .val (.ref b)] [(.ref b)])) (fun _ k => st2 _ (XS.ifNo X2.here hx rfl (hb hby d23_4) rfl (XT.i0_eq_f (by decide)) (XS.aloadN X2.here hx rfl (hb hby d23_7) rfl rfl k))) ?_
    obtain ⟨T3, X3, e3, st3⟩ := castY X2 hx hZ hown (own_w hw 113 rfl) e2 (Ins.self E2) (g := (mkF m 8 #[.val (.ref a), .val (.ref b)] [(.ref b)])) rfl rfl (hb hby d23_8)
    refine Goes.on (T' := T3) (g' := (mkF m 11 #[.val (.ref a), .val (.ref b)] [(.ref b)])) (fun _ k => st3 _ k) ?_
    obtain ⟨T4, X4, e4, st4⟩ := getF X3 hx hZ hown (host := "") (Or.inl (own_w hw 104 rfl)) Via.refl e3 V2 (g := (mkF m 11 #[.val (.ref a), .val (.ref b)] [(.ref b)])) rfl rfl (hb hby d23_11)
    refine Goes.on (T' := T4) (g' := (mkF m 15 #[.val (.ref a), .val (.ref b)] [(.ref a), (.ref sb)])) (fun _ k => st4 _ (XS.aloadN X4.here hx rfl (hb hby d23_14) rfl rfl k)) ?_
    obtain ⟨T5, X5, e5, st5⟩ := getF X4 hx hZ hown (host := "") (Or.inl (own_w hw 104 rfl)) Via.refl e4 V1 (g := (mkF m 15 #[.val (.ref a), .val (.ref b)] [(.ref a), (.ref sb)])) rfl rfl (hb hby d23_15)
    refine Goes.on (T' := T5) (g' := (mkF m 18 #[.val (.ref a), .val (.ref b)] [(.ref sa), (.ref sb)])) (fun _ k => st5 _ k) ?_
    refine Goes.callV X5 hx hZ 0 hown (own_w hw 52 rfl) (own_w hw 53 rfl) (notFace_of_selects (args := #[]) (mvT hZ (own_w hw 55 rfl))) (own_w hw 55 rfl) (own_w hw 54 rfl) (own_w hw 9 rfl) (own_w hw 56 rfl) (by decide) e5 (PB).1 (rmEqss11 l Z a0 hw sb sa v0 u0 h0 n0 Z0 O0 cs SC hcs yb ya kb ka PB PA (1 : Int32) (Or.inr rfl) (own_T hc1)) (by decide) (by decide) (by decide) (by decide) rfl (by rw [hml]; rfl) (argsL := [(.ref sa)]) (rest := []) rfl (lenOf pd_7 rfl) rfl (by show 2 * 0 + _ ≤ _; exact Nat.le_of_eq rfl) (hb hby d23_18) ?_
    intro v6 T6 L6 X6 hQ6
    obtain ⟨rfl, N6q, e6⟩ := hQ6
    have N6 := Fr.app N0 N6q
    show Goes p e below _ T6 (mkF m 21 #[.val (.ref a), .val (.ref b)] [(.int (1 : Int32))])
    refine Goes.on (T' := T6) (g' := (mkF m 25 #[.val (.ref a), .val (.ref b)] [(.ref b)])) (fun _ k => XS.ifNo X6.here hx rfl (hb hby d23_21) rfl (XT.i0_eq_f (by decide)) (XS.aloadN X6.here hx rfl (hb hby d23_24) rfl rfl k)) ?_
    obtain ⟨T7, X7, e7, st7⟩ := castY X6 hx hZ hown (own_w hw 113 rfl) e6 (Ins.self E2) (g := (mkF m 25 #[.val (.ref a), .val (.ref b)] [(.ref b)])) rfl rfl (hb hby d23_25)
    refine Goes.on (T' := T7) (g' := (mkF m 28 #[.val (.ref a), .val (.ref b)] [(.ref b)])) (fun _ k => st7 _ k) ?_
    obtain ⟨T8, X8, e8, st8⟩ := getF X7 hx hZ hown (host := "") (Or.inl (own_w hw 106 rfl)) Via.refl e7 W2 (g := (mkF m 28 #[.val (.ref a), .val (.ref b)] [(.ref b)])) rfl rfl (hb hby d23_28)
    refine Goes.on (T' := T8) (g' := (mkF m 32 #[.val (.ref a), .val (.ref b)] [(.ref a), (.long o2)])) (fun _ k => st8 _ (XS.aloadN X8.here hx rfl (hb hby d23_31) rfl rfl k)) ?_
    obtain ⟨T9, X9, e9, st9⟩ := getF X8 hx hZ hown (host := "") (Or.inl (own_w hw 106 rfl)) Via.refl e8 W1 (g := (mkF m 32 #[.val (.ref a), .val (.ref b)] [(.ref a), (.long o2)])) rfl rfl (hb hby d23_32)
    refine Goes.on (T' := T9) (g' := (mkF m 36 #[.val (.ref a), .val (.ref b)] [(.int (XT.cmpL o2 o1))])) (fun _ k => st9 _ (XT.lcmp X9.here hx rfl (hb hby d23_35) rfl k)) ?_
    by_cases hc10 : o2 = o1
    · refine Goes.on (T' := T9) (g' := (mkF m 44 #[.val (.ref a), .val (.ref b)] [(.int (1 : Int32))])) (fun _ k => XS.ifNo X9.here hx rfl (hb hby d23_36) rfl (XT.ll_ne_f hc10) (XS.iconst X9.here hx rfl (hb hby d23_39) (XS.goto X9.here hx rfl (pc0 := 40) (pc' := 44) rfl (hb hby d23_40) (by decide) (by decide) k))) ?_
      exact Goes.retB X9 hx hlk hret (Or.inr rfl) (hb hby d23_44) (by decide) (by decide) ⟨own_is1 hP ⟨hc1, hc10⟩, N6, e9⟩
    · refine Goes.on (T' := T9) (g' := (mkF m 44 #[.val (.ref a), .val (.ref b)] [(.int (0 : Int32))])) (fun _ k => XS.ifYes X9.here hx rfl (pc0 := 36) (pc' := 43) rfl (hb hby d23_36) rfl (XT.ll_ne_t hc10) (by decide) (by decide) (XS.iconst X9.here hx rfl (hb hby d23_43) k)) ?_
      exact Goes.retB X9 hx hlk hret (Or.inl rfl) (hb hby d23_44) (by decide) (by decide) ⟨own_is0 hz hP (fun q => hc10 q.2), N6, e9⟩
  · refine Goes.on (T' := T0) (g' := (mkF m 1 #[.val (.ref a), .val (.ref b)] [(.ref b)])) (fun _ k => XS.aloadN X0.here hx rfl (hb hby d23_0) rfl rfl k) ?_
    obtain ⟨T11, X11, e11, st11⟩ := instY X0 hx hZ hown (own_w hw 113 rfl) e0 (Ins.self E2) (g := (mkF m 1 #[.val (.ref a), .val (.ref b)] [(.ref b)])) rfl rfl (hb hby d23_1)
    refine Goes.on (T' := T11) (g' := (mkF m 8 #[.val (.ref a), .val (.ref b)] [(.ref b)])) (fun _ k => st11 _ (XS.ifNo X11.here hx rfl (hb hby d23_4) rfl (XT.i0_eq_f (by decide)) (XS.aloadN X11.here hx rfl (hb hby d23_7) rfl rfl k))) ?_
    obtain ⟨T12, X12, e12, st12⟩ := castY X11 hx hZ hown (own_w hw 113 rfl) e11 (Ins.self E2) (g := (mkF m 8 #[.val (.ref a), .val (.ref b)] [(.ref b)])) rfl rfl (hb hby d23_8)
    refine Goes.on (T' := T12) (g' := (mkF m 11 #[.val (.ref a), .val (.ref b)] [(.ref b)])) (fun _ k => st12 _ k) ?_
    obtain ⟨T13, X13, e13, st13⟩ := getF X12 hx hZ hown (host := "") (Or.inl (own_w hw 104 rfl)) Via.refl e12 V2 (g := (mkF m 11 #[.val (.ref a), .val (.ref b)] [(.ref b)])) rfl rfl (hb hby d23_11)
    refine Goes.on (T' := T13) (g' := (mkF m 15 #[.val (.ref a), .val (.ref b)] [(.ref a), (.ref sb)])) (fun _ k => st13 _ (XS.aloadN X13.here hx rfl (hb hby d23_14) rfl rfl k)) ?_
    obtain ⟨T14, X14, e14, st14⟩ := getF X13 hx hZ hown (host := "") (Or.inl (own_w hw 104 rfl)) Via.refl e13 V1 (g := (mkF m 15 #[.val (.ref a), .val (.ref b)] [(.ref a), (.ref sb)])) rfl rfl (hb hby d23_15)
    refine Goes.on (T' := T14) (g' := (mkF m 18 #[.val (.ref a), .val (.ref b)] [(.ref sa), (.ref sb)])) (fun _ k => st14 _ k) ?_
    refine Goes.callV X14 hx hZ 0 hown (own_w hw 52 rfl) (own_w hw 53 rfl) (notFace_of_selects (args := #[]) (mvT hZ (own_w hw 55 rfl))) (own_w hw 55 rfl) (own_w hw 54 rfl) (own_w hw 9 rfl) (own_w hw 56 rfl) (by decide) e14 (PB).1 (rmEqss11 l Z a0 hw sb sa v0 u0 h0 n0 Z0 O0 cs SC hcs yb ya kb ka PB PA (0 : Int32) (Or.inl rfl) (own_F hc1)) (by decide) (by decide) (by decide) (by decide) rfl (by rw [hml]; rfl) (argsL := [(.ref sa)]) (rest := []) rfl (lenOf pd_7 rfl) rfl (by show 2 * 0 + _ ≤ _; exact Nat.le_of_eq rfl) (hb hby d23_18) ?_
    intro v15 T15 L15 X15 hQ15
    obtain ⟨rfl, N15q, e15⟩ := hQ15
    have N15 := Fr.app N0 N15q
    show Goes p e below _ T15 (mkF m 21 #[.val (.ref a), .val (.ref b)] [(.int (0 : Int32))])
    refine Goes.on (T' := T15) (g' := (mkF m 44 #[.val (.ref a), .val (.ref b)] [(.int (0 : Int32))])) (fun _ k => XS.ifYes X15.here hx rfl (pc0 := 21) (pc' := 43) rfl (hb hby d23_21) rfl (XT.i0_eq_t (by decide)) (by decide) (by decide) (XS.iconst X15.here hx rfl (hb hby d23_43) k)) ?_
    exact Goes.retB X15 hx hlk hret (Or.inl rfl) (hb hby d23_44) (by decide) (by decide) ⟨own_is0 hz hP (fun q => hc1 q.1), N15, e15⟩
set_option maxRecDepth 65536 in
set_option maxHeartbeats 40000000 in
theorem rmOe12 (l : Launch) (Z : State) (a0 : Array Value) (hw : ∀ d ∈ tables_1, d.before a0 Z = true) (a b : Addr) (u0 v0 v1 : Int32) (h0 : Heap) (n0 : Nat) (Z0 : n0 ≤ h0.size) (O0 : Old Z n0 h0) (cs : Int32) (SC : Sta Z Z.heap "java/lang/String" "COMPACT_STRINGS" "Z" (.int cs)) (hcs : ¬ cs = (0 : Int32)) (sa sb ya yb : Addr) (ka kb : ClassId) (o1 o2 : Int64) (E1 : Exa Z h0 a "com/example/narada/narada/ObjectAddress") (V1 : Fld Z h0 a "com/example/narada/narada/ObjectAddress" "endpoint" "Ljava/lang/String;" (.ref sa)) (W1 : Fld Z h0 a "com/example/narada/narada/ObjectAddress" "object" "J" (.long o1)) (E2 : Exa Z h0 b "com/example/narada/narada/ObjectAddress") (V2 : Fld Z h0 b "com/example/narada/narada/ObjectAddress" "endpoint" "Ljava/lang/String;" (.ref sb)) (W2 : Fld Z h0 b "com/example/narada/narada/ObjectAddress" "object" "J" (.long o2)) (PA : Str Z h0 sa ya ka (Int32.ofNat 1) [Value.int u0]) (PB : Str Z h0 sb yb kb (Int32.ofNat 2) [Value.int v0, Value.int v1]) (z : Int32) (hz : z = 0 ∨ z = 1) (hP : z = 1 ↔ (False) ∧ o2 = o1) :
    Pays l Z (⟨"com/example/narada/narada/ObjectAddress", "equals", "(Ljava/lang/Object;)Z"⟩ : MethodName) prog_13_method_4_code 2 (some .boolean) [] ({ frames := 2, cells := 0, slots := 0, locals := 28 } : Room) #[(.ref a), (.ref b)] h0 (fun v h L => v = some (.int z) ∧ Fr n0 L ∧ h = h0) := by
  refine Pays.walk (plainFor_of_name pn_3) (fun m => ef_9 m a b ) ?_
  intro p e s m below meth c T0 X0 hx hby hml hown hnm hZ e0 hret hlk
  have N0 := Fr.nil n0
  refine Goes.on (T' := T0) (g' := (mkF m 1 #[.val (.ref a), .val (.ref b)] [(.ref b)])) (fun _ k => XS.aloadN X0.here hx rfl (hb hby d23_0) rfl rfl k) ?_
  obtain ⟨T1, X1, e1, st1⟩ := instY X0 hx hZ hown (own_w hw 113 rfl) e0 (Ins.self E2) (g := (mkF m 1 #[.val (.ref a), .val (.ref b)] [(.ref b)])) rfl rfl (hb hby d23_1)
  refine Goes.on (T' := T1) (g' := (mkF m 8 #[.val (.ref a), .val (.ref b)] [(.ref b)])) (fun _ k => st1 _ (XS.ifNo X1.here hx rfl (hb hby d23_4) rfl (XT.i0_eq_f (by decide)) (XS.aloadN X1.here hx rfl (hb hby d23_7) rfl rfl k))) ?_
  obtain ⟨T2, X2, e2, st2⟩ := castY X1 hx hZ hown (own_w hw 113 rfl) e1 (Ins.self E2) (g := (mkF m 8 #[.val (.ref a), .val (.ref b)] [(.ref b)])) rfl rfl (hb hby d23_8)
  refine Goes.on (T' := T2) (g' := (mkF m 11 #[.val (.ref a), .val (.ref b)] [(.ref b)])) (fun _ k => st2 _ k) ?_
  obtain ⟨T3, X3, e3, st3⟩ := getF X2 hx hZ hown (host := "") (Or.inl (own_w hw 104 rfl)) Via.refl e2 V2 (g := (mkF m 11 #[.val (.ref a), .val (.ref b)] [(.ref b)])) rfl rfl (hb hby d23_11)
  refine Goes.on (T' := T3) (g' := (mkF m 15 #[.val (.ref a), .val (.ref b)] [(.ref a), (.ref sb)])) (fun _ k => st3 _ (XS.aloadN X3.here hx rfl (hb hby d23_14) rfl rfl k)) ?_
  obtain ⟨T4, X4, e4, st4⟩ := getF X3 hx hZ hown (host := "") (Or.inl (own_w hw 104 rfl)) Via.refl e3 V1 (g := (mkF m 15 #[.val (.ref a), .val (.ref b)] [(.ref a), (.ref sb)])) rfl rfl (hb hby d23_15)
  refine Goes.on (T' := T4) (g' := (mkF m 18 #[.val (.ref a), .val (.ref b)] [(.ref sa), (.ref sb)])) (fun _ k => st4 _ k) ?_
  refine Goes.callV X4 hx hZ 0 hown (own_w hw 52 rfl) (own_w hw 53 rfl) (notFace_of_selects (args := #[]) (mvT hZ (own_w hw 55 rfl))) (own_w hw 55 rfl) (own_w hw 54 rfl) (own_w hw 9 rfl) (own_w hw 56 rfl) (by decide) e4 (PB).1 (rmEqss21 l Z a0 hw sb sa v0 v1 u0 h0 n0 Z0 O0 cs SC hcs yb ya kb ka PB PA (0 : Int32) (Or.inl rfl) (own_F (fun q => q))) (by decide) (by decide) (by decide) (by decide) rfl (by rw [hml]; rfl) (argsL := [(.ref sa)]) (rest := []) rfl (lenOf pd_7 rfl) rfl (by show 2 * 0 + _ ≤ _; exact Nat.le_of_eq rfl) (hb hby d23_18) ?_
  intro v5 T5 L5 X5 hQ5
  obtain ⟨rfl, N5q, e5⟩ := hQ5
  have N5 := Fr.app N0 N5q
  show Goes p e below _ T5 (mkF m 21 #[.val (.ref a), .val (.ref b)] [(.int (0 : Int32))])
  refine Goes.on (T' := T5) (g' := (mkF m 44 #[.val (.ref a), .val (.ref b)] [(.int (0 : Int32))])) (fun _ k => XS.ifYes X5.here hx rfl (pc0 := 21) (pc' := 43) rfl (hb hby d23_21) rfl (XT.i0_eq_t (by decide)) (by decide) (by decide) (XS.iconst X5.here hx rfl (hb hby d23_43) k)) ?_
  exact Goes.retB X5 hx hlk hret (Or.inl rfl) (hb hby d23_44) (by decide) (by decide) ⟨own_is0 hz hP (fun q => q.1), N5, e5⟩
set_option maxRecDepth 65536 in
set_option maxHeartbeats 40000000 in
theorem rmOe21 (l : Launch) (Z : State) (a0 : Array Value) (hw : ∀ d ∈ tables_1, d.before a0 Z = true) (a b : Addr) (u0 u1 v0 : Int32) (h0 : Heap) (n0 : Nat) (Z0 : n0 ≤ h0.size) (O0 : Old Z n0 h0) (cs : Int32) (SC : Sta Z Z.heap "java/lang/String" "COMPACT_STRINGS" "Z" (.int cs)) (hcs : ¬ cs = (0 : Int32)) (sa sb ya yb : Addr) (ka kb : ClassId) (o1 o2 : Int64) (E1 : Exa Z h0 a "com/example/narada/narada/ObjectAddress") (V1 : Fld Z h0 a "com/example/narada/narada/ObjectAddress" "endpoint" "Ljava/lang/String;" (.ref sa)) (W1 : Fld Z h0 a "com/example/narada/narada/ObjectAddress" "object" "J" (.long o1)) (E2 : Exa Z h0 b "com/example/narada/narada/ObjectAddress") (V2 : Fld Z h0 b "com/example/narada/narada/ObjectAddress" "endpoint" "Ljava/lang/String;" (.ref sb)) (W2 : Fld Z h0 b "com/example/narada/narada/ObjectAddress" "object" "J" (.long o2)) (PA : Str Z h0 sa ya ka (Int32.ofNat 2) [Value.int u0, Value.int u1]) (PB : Str Z h0 sb yb kb (Int32.ofNat 1) [Value.int v0]) (z : Int32) (hz : z = 0 ∨ z = 1) (hP : z = 1 ↔ (False) ∧ o2 = o1) :
    Pays l Z (⟨"com/example/narada/narada/ObjectAddress", "equals", "(Ljava/lang/Object;)Z"⟩ : MethodName) prog_13_method_4_code 2 (some .boolean) [] ({ frames := 2, cells := 0, slots := 0, locals := 28 } : Room) #[(.ref a), (.ref b)] h0 (fun v h L => v = some (.int z) ∧ Fr n0 L ∧ h = h0) := by
  refine Pays.walk (plainFor_of_name pn_3) (fun m => ef_9 m a b ) ?_
  intro p e s m below meth c T0 X0 hx hby hml hown hnm hZ e0 hret hlk
  have N0 := Fr.nil n0
  refine Goes.on (T' := T0) (g' := (mkF m 1 #[.val (.ref a), .val (.ref b)] [(.ref b)])) (fun _ k => XS.aloadN X0.here hx rfl (hb hby d23_0) rfl rfl k) ?_
  obtain ⟨T1, X1, e1, st1⟩ := instY X0 hx hZ hown (own_w hw 113 rfl) e0 (Ins.self E2) (g := (mkF m 1 #[.val (.ref a), .val (.ref b)] [(.ref b)])) rfl rfl (hb hby d23_1)
  refine Goes.on (T' := T1) (g' := (mkF m 8 #[.val (.ref a), .val (.ref b)] [(.ref b)])) (fun _ k => st1 _ (XS.ifNo X1.here hx rfl (hb hby d23_4) rfl (XT.i0_eq_f (by decide)) (XS.aloadN X1.here hx rfl (hb hby d23_7) rfl rfl k))) ?_
  obtain ⟨T2, X2, e2, st2⟩ := castY X1 hx hZ hown (own_w hw 113 rfl) e1 (Ins.self E2) (g := (mkF m 8 #[.val (.ref a), .val (.ref b)] [(.ref b)])) rfl rfl (hb hby d23_8)
  refine Goes.on (T' := T2) (g' := (mkF m 11 #[.val (.ref a), .val (.ref b)] [(.ref b)])) (fun _ k => st2 _ k) ?_
  obtain ⟨T3, X3, e3, st3⟩ := getF X2 hx hZ hown (host := "") (Or.inl (own_w hw 104 rfl)) Via.refl e2 V2 (g := (mkF m 11 #[.val (.ref a), .val (.ref b)] [(.ref b)])) rfl rfl (hb hby d23_11)
  refine Goes.on (T' := T3) (g' := (mkF m 15 #[.val (.ref a), .val (.ref b)] [(.ref a), (.ref sb)])) (fun _ k => st3 _ (XS.aloadN X3.here hx rfl (hb hby d23_14) rfl rfl k)) ?_
  obtain ⟨T4, X4, e4, st4⟩ := getF X3 hx hZ hown (host := "") (Or.inl (own_w hw 104 rfl)) Via.refl e3 V1 (g := (mkF m 15 #[.val (.ref a), .val (.ref b)] [(.ref a), (.ref sb)])) rfl rfl (hb hby d23_15)
  refine Goes.on (T' := T4) (g' := (mkF m 18 #[.val (.ref a), .val (.ref b)] [(.ref sa), (.ref sb)])) (fun _ k => st4 _ k) ?_
  refine Goes.callV X4 hx hZ 0 hown (own_w hw 52 rfl) (own_w hw 53 rfl) (notFace_of_selects (args := #[]) (mvT hZ (own_w hw 55 rfl))) (own_w hw 55 rfl) (own_w hw 54 rfl) (own_w hw 9 rfl) (own_w hw 56 rfl) (by decide) e4 (PB).1 (rmEqss12 l Z a0 hw sb sa v0 u0 u1 h0 n0 Z0 O0 cs SC hcs yb ya kb ka PB PA (0 : Int32) (Or.inl rfl) (own_F (fun q => q))) (by decide) (by decide) (by decide) (by decide) rfl (by rw [hml]; rfl) (argsL := [(.ref sa)]) (rest := []) rfl (lenOf pd_7 rfl) rfl (by show 2 * 0 + _ ≤ _; exact Nat.le_of_eq rfl) (hb hby d23_18) ?_
  intro v5 T5 L5 X5 hQ5
  obtain ⟨rfl, N5q, e5⟩ := hQ5
  have N5 := Fr.app N0 N5q
  show Goes p e below _ T5 (mkF m 21 #[.val (.ref a), .val (.ref b)] [(.int (0 : Int32))])
  refine Goes.on (T' := T5) (g' := (mkF m 44 #[.val (.ref a), .val (.ref b)] [(.int (0 : Int32))])) (fun _ k => XS.ifYes X5.here hx rfl (pc0 := 21) (pc' := 43) rfl (hb hby d23_21) rfl (XT.i0_eq_t (by decide)) (by decide) (by decide) (XS.iconst X5.here hx rfl (hb hby d23_43) k)) ?_
  exact Goes.retB X5 hx hlk hret (Or.inl rfl) (hb hby d23_44) (by decide) (by decide) ⟨own_is0 hz hP (fun q => q.1), N5, e5⟩
set_option maxRecDepth 65536 in
set_option maxHeartbeats 40000000 in
theorem rmOe22 (l : Launch) (Z : State) (a0 : Array Value) (hw : ∀ d ∈ tables_1, d.before a0 Z = true) (a b : Addr) (u0 u1 v0 v1 : Int32) (h0 : Heap) (n0 : Nat) (Z0 : n0 ≤ h0.size) (O0 : Old Z n0 h0) (cs : Int32) (SC : Sta Z Z.heap "java/lang/String" "COMPACT_STRINGS" "Z" (.int cs)) (hcs : ¬ cs = (0 : Int32)) (sa sb ya yb : Addr) (ka kb : ClassId) (o1 o2 : Int64) (E1 : Exa Z h0 a "com/example/narada/narada/ObjectAddress") (V1 : Fld Z h0 a "com/example/narada/narada/ObjectAddress" "endpoint" "Ljava/lang/String;" (.ref sa)) (W1 : Fld Z h0 a "com/example/narada/narada/ObjectAddress" "object" "J" (.long o1)) (E2 : Exa Z h0 b "com/example/narada/narada/ObjectAddress") (V2 : Fld Z h0 b "com/example/narada/narada/ObjectAddress" "endpoint" "Ljava/lang/String;" (.ref sb)) (W2 : Fld Z h0 b "com/example/narada/narada/ObjectAddress" "object" "J" (.long o2)) (PA : Str Z h0 sa ya ka (Int32.ofNat 2) [Value.int u0, Value.int u1]) (PB : Str Z h0 sb yb kb (Int32.ofNat 2) [Value.int v0, Value.int v1]) (z : Int32) (hz : z = 0 ∨ z = 1) (hP : z = 1 ↔ (v0 = u0 ∧ v1 = u1) ∧ o2 = o1) :
    Pays l Z (⟨"com/example/narada/narada/ObjectAddress", "equals", "(Ljava/lang/Object;)Z"⟩ : MethodName) prog_13_method_4_code 2 (some .boolean) [] ({ frames := 2, cells := 0, slots := 0, locals := 28 } : Room) #[(.ref a), (.ref b)] h0 (fun v h L => v = some (.int z) ∧ Fr n0 L ∧ h = h0) := by
  refine Pays.walk (plainFor_of_name pn_3) (fun m => ef_9 m a b ) ?_
  intro p e s m below meth c T0 X0 hx hby hml hown hnm hZ e0 hret hlk
  have N0 := Fr.nil n0
  by_cases hc1 : v0 = u0 ∧ v1 = u1
  · refine Goes.on (T' := T0) (g' := (mkF m 1 #[.val (.ref a), .val (.ref b)] [(.ref b)])) (fun _ k => XS.aloadN X0.here hx rfl (hb hby d23_0) rfl rfl k) ?_
    obtain ⟨T2, X2, e2, st2⟩ := instY X0 hx hZ hown (own_w hw 113 rfl) e0 (Ins.self E2) (g := (mkF m 1 #[.val (.ref a), .val (.ref b)] [(.ref b)])) rfl rfl (hb hby d23_1)
    refine Goes.on (T' := T2) (g' := (mkF m 8 #[.val (.ref a), .val (.ref b)] [(.ref b)])) (fun _ k => st2 _ (XS.ifNo X2.here hx rfl (hb hby d23_4) rfl (XT.i0_eq_f (by decide)) (XS.aloadN X2.here hx rfl (hb hby d23_7) rfl rfl k))) ?_
    obtain ⟨T3, X3, e3, st3⟩ := castY X2 hx hZ hown (own_w hw 113 rfl) e2 (Ins.self E2) (g := (mkF m 8 #[.val (.ref a), .val (.ref b)] [(.ref b)])) rfl rfl (hb hby d23_8)
    refine Goes.on (T' := T3) (g' := (mkF m 11 #[.val (.ref a), .val (.ref b)] [(.ref b)])) (fun _ k => st3 _ k) ?_
    obtain ⟨T4, X4, e4, st4⟩ := getF X3 hx hZ hown (host := "") (Or.inl (own_w hw 104 rfl)) Via.refl e3 V2 (g := (mkF m 11 #[.val (.ref a), .val (.ref b)] [(.ref b)])) rfl rfl (hb hby d23_11)
    refine Goes.on (T' := T4) (g' := (mkF m 15 #[.val (.ref a), .val (.ref b)] [(.ref a), (.ref sb)])) (fun _ k => st4 _ (XS.aloadN X4.here hx rfl (hb hby d23_14) rfl rfl k)) ?_
    obtain ⟨T5, X5, e5, st5⟩ := getF X4 hx hZ hown (host := "") (Or.inl (own_w hw 104 rfl)) Via.refl e4 V1 (g := (mkF m 15 #[.val (.ref a), .val (.ref b)] [(.ref a), (.ref sb)])) rfl rfl (hb hby d23_15)
    refine Goes.on (T' := T5) (g' := (mkF m 18 #[.val (.ref a), .val (.ref b)] [(.ref sa), (.ref sb)])) (fun _ k => st5 _ k) ?_
    refine Goes.callV X5 hx hZ 0 hown (own_w hw 52 rfl) (own_w hw 53 rfl) (notFace_of_selects (args := #[]) (mvT hZ (own_w hw 55 rfl))) (own_w hw 55 rfl) (own_w hw 54 rfl) (own_w hw 9 rfl) (own_w hw 56 rfl) (by decide) e5 (PB).1 (rmEqss22 l Z a0 hw sb sa v0 v1 u0 u1 h0 n0 Z0 O0 cs SC hcs yb ya kb ka PB PA (1 : Int32) (Or.inr rfl) (own_T hc1)) (by decide) (by decide) (by decide) (by decide) rfl (by rw [hml]; rfl) (argsL := [(.ref sa)]) (rest := []) rfl (lenOf pd_7 rfl) rfl (by show 2 * 0 + _ ≤ _; exact Nat.le_of_eq rfl) (hb hby d23_18) ?_
    intro v6 T6 L6 X6 hQ6
    obtain ⟨rfl, N6q, e6⟩ := hQ6
    have N6 := Fr.app N0 N6q
    show Goes p e below _ T6 (mkF m 21 #[.val (.ref a), .val (.ref b)] [(.int (1 : Int32))])
    refine Goes.on (T' := T6) (g' := (mkF m 25 #[.val (.ref a), .val (.ref b)] [(.ref b)])) (fun _ k => XS.ifNo X6.here hx rfl (hb hby d23_21) rfl (XT.i0_eq_f (by decide)) (XS.aloadN X6.here hx rfl (hb hby d23_24) rfl rfl k)) ?_
    obtain ⟨T7, X7, e7, st7⟩ := castY X6 hx hZ hown (own_w hw 113 rfl) e6 (Ins.self E2) (g := (mkF m 25 #[.val (.ref a), .val (.ref b)] [(.ref b)])) rfl rfl (hb hby d23_25)
    refine Goes.on (T' := T7) (g' := (mkF m 28 #[.val (.ref a), .val (.ref b)] [(.ref b)])) (fun _ k => st7 _ k) ?_
    obtain ⟨T8, X8, e8, st8⟩ := getF X7 hx hZ hown (host := "") (Or.inl (own_w hw 106 rfl)) Via.refl e7 W2 (g := (mkF m 28 #[.val (.ref a), .val (.ref b)] [(.ref b)])) rfl rfl (hb hby d23_28)
    refine Goes.on (T' := T8) (g' := (mkF m 32 #[.val (.ref a), .val (.ref b)] [(.ref a), (.long o2)])) (fun _ k => st8 _ (XS.aloadN X8.here hx rfl (hb hby d23_31) rfl rfl k)) ?_
    obtain ⟨T9, X9, e9, st9⟩ := getF X8 hx hZ hown (host := "") (Or.inl (own_w hw 106 rfl)) Via.refl e8 W1 (g := (mkF m 32 #[.val (.ref a), .val (.ref b)] [(.ref a), (.long o2)])) rfl rfl (hb hby d23_32)
    refine Goes.on (T' := T9) (g' := (mkF m 36 #[.val (.ref a), .val (.ref b)] [(.int (XT.cmpL o2 o1))])) (fun _ k => st9 _ (XT.lcmp X9.here hx rfl (hb hby d23_35) rfl k)) ?_
    by_cases hc10 : o2 = o1
    · refine Goes.on (T' := T9) (g' := (mkF m 44 #[.val (.ref a), .val (.ref b)] [(.int (1 : Int32))])) (fun _ k => XS.ifNo X9.here hx rfl (hb hby d23_36) rfl (XT.ll_ne_f hc10) (XS.iconst X9.here hx rfl (hb hby d23_39) (XS.goto X9.here hx rfl (pc0 := 40) (pc' := 44) rfl (hb hby d23_40) (by decide) (by decide) k))) ?_
      exact Goes.retB X9 hx hlk hret (Or.inr rfl) (hb hby d23_44) (by decide) (by decide) ⟨own_is1 hP ⟨hc1, hc10⟩, N6, e9⟩
    · refine Goes.on (T' := T9) (g' := (mkF m 44 #[.val (.ref a), .val (.ref b)] [(.int (0 : Int32))])) (fun _ k => XS.ifYes X9.here hx rfl (pc0 := 36) (pc' := 43) rfl (hb hby d23_36) rfl (XT.ll_ne_t hc10) (by decide) (by decide) (XS.iconst X9.here hx rfl (hb hby d23_43) k)) ?_
      exact Goes.retB X9 hx hlk hret (Or.inl rfl) (hb hby d23_44) (by decide) (by decide) ⟨own_is0 hz hP (fun q => hc10 q.2), N6, e9⟩
  · refine Goes.on (T' := T0) (g' := (mkF m 1 #[.val (.ref a), .val (.ref b)] [(.ref b)])) (fun _ k => XS.aloadN X0.here hx rfl (hb hby d23_0) rfl rfl k) ?_
    obtain ⟨T11, X11, e11, st11⟩ := instY X0 hx hZ hown (own_w hw 113 rfl) e0 (Ins.self E2) (g := (mkF m 1 #[.val (.ref a), .val (.ref b)] [(.ref b)])) rfl rfl (hb hby d23_1)
    refine Goes.on (T' := T11) (g' := (mkF m 8 #[.val (.ref a), .val (.ref b)] [(.ref b)])) (fun _ k => st11 _ (XS.ifNo X11.here hx rfl (hb hby d23_4) rfl (XT.i0_eq_f (by decide)) (XS.aloadN X11.here hx rfl (hb hby d23_7) rfl rfl k))) ?_
    obtain ⟨T12, X12, e12, st12⟩ := castY X11 hx hZ hown (own_w hw 113 rfl) e11 (Ins.self E2) (g := (mkF m 8 #[.val (.ref a), .val (.ref b)] [(.ref b)])) rfl rfl (hb hby d23_8)
    refine Goes.on (T' := T12) (g' := (mkF m 11 #[.val (.ref a), .val (.ref b)] [(.ref b)])) (fun _ k => st12 _ k) ?_
    obtain ⟨T13, X13, e13, st13⟩ := getF X12 hx hZ hown (host := "") (Or.inl (own_w hw 104 rfl)) Via.refl e12 V2 (g := (mkF m 11 #[.val (.ref a), .val (.ref b)] [(.ref b)])) rfl rfl (hb hby d23_11)
    refine Goes.on (T' := T13) (g' := (mkF m 15 #[.val (.ref a), .val (.ref b)] [(.ref a), (.ref sb)])) (fun _ k => st13 _ (XS.aloadN X13.here hx rfl (hb hby d23_14) rfl rfl k)) ?_
    obtain ⟨T14, X14, e14, st14⟩ := getF X13 hx hZ hown (host := "") (Or.inl (own_w hw 104 rfl)) Via.refl e13 V1 (g := (mkF m 15 #[.val (.ref a), .val (.ref b)] [(.ref a), (.ref sb)])) rfl rfl (hb hby d23_15)
    refine Goes.on (T' := T14) (g' := (mkF m 18 #[.val (.ref a), .val (.ref b)] [(.ref sa), (.ref sb)])) (fun _ k => st14 _ k) ?_
    refine Goes.callV X14 hx hZ 0 hown (own_w hw 52 rfl) (own_w hw 53 rfl) (notFace_of_selects (args := #[]) (mvT hZ (own_w hw 55 rfl))) (own_w hw 55 rfl) (own_w hw 54 rfl) (own_w hw 9 rfl) (own_w hw 56 rfl) (by decide) e14 (PB).1 (rmEqss22 l Z a0 hw sb sa v0 v1 u0 u1 h0 n0 Z0 O0 cs SC hcs yb ya kb ka PB PA (0 : Int32) (Or.inl rfl) (own_F hc1)) (by decide) (by decide) (by decide) (by decide) rfl (by rw [hml]; rfl) (argsL := [(.ref sa)]) (rest := []) rfl (lenOf pd_7 rfl) rfl (by show 2 * 0 + _ ≤ _; exact Nat.le_of_eq rfl) (hb hby d23_18) ?_
    intro v15 T15 L15 X15 hQ15
    obtain ⟨rfl, N15q, e15⟩ := hQ15
    have N15 := Fr.app N0 N15q
    show Goes p e below _ T15 (mkF m 21 #[.val (.ref a), .val (.ref b)] [(.int (0 : Int32))])
    refine Goes.on (T' := T15) (g' := (mkF m 44 #[.val (.ref a), .val (.ref b)] [(.int (0 : Int32))])) (fun _ k => XS.ifYes X15.here hx rfl (pc0 := 21) (pc' := 43) rfl (hb hby d23_21) rfl (XT.i0_eq_t (by decide)) (by decide) (by decide) (XS.iconst X15.here hx rfl (hb hby d23_43) k)) ?_
    exact Goes.retB X15 hx hlk hret (Or.inl rfl) (hb hby d23_44) (by decide) (by decide) ⟨own_is0 hz hP (fun q => hc1 q.1), N15, e15⟩
theorem ef_10 (m : MethodId) (x0 : Addr) : entryFrame m #[(.ref x0), .null] 2 = mkF m 0 #[.val (.ref x0), .val .null] [] := by first | (simp [entryFrame, mkF, argsToLocals, Value.category]; done) | rfl
set_option maxRecDepth 65536 in
set_option maxHeartbeats 40000000 in
theorem rmOeN (l : Launch) (Z : State) (a0 : Array Value) (hw : ∀ d ∈ tables_1, d.before a0 Z = true) (a : Addr) (h0 : Heap) (n0 : Nat) (Z0 : n0 ≤ h0.size) :
    Pays l Z (⟨"com/example/narada/narada/ObjectAddress", "equals", "(Ljava/lang/Object;)Z"⟩ : MethodName) prog_13_method_4_code 2 (some .boolean) [] ({ frames := 0, cells := 0, slots := 0, locals := 0 } : Room) #[(.ref a), .null] h0 (fun v h L => v = some (.int (0 : Int32)) ∧ Fr n0 L ∧ h = h0) := by
  refine Pays.walk (plainFor_of_name pn_3) (fun m => ef_10 m a  ) ?_
  intro p e s m below meth c T0 X0 hx hby hml hown hnm hZ e0 hret hlk
  have N0 := Fr.nil n0
  refine Goes.on (T' := T0) (g' := (mkF m 44 #[.val (.ref a), .val .null] [(.int (0 : Int32))])) (fun _ k => XS.aloadN X0.here hx rfl (hb hby d23_0) rfl rfl (X0.instanceofNull hx (g := (mkF m 1 #[.val (.ref a), .val .null] [.null])) rfl rfl (hb hby d23_1) _ (XS.ifYes X0.here hx rfl (pc0 := 4) (pc' := 43) rfl (hb hby d23_4) rfl (XT.i0_eq_t (by decide)) (by decide) (by decide) (XS.iconst X0.here hx rfl (hb hby d23_43) k)))) ?_
  exact Goes.retB X0 hx hlk hret (Or.inl rfl) (hb hby d23_44) (by decide) (by decide) ⟨rfl, N0, e0⟩
set_option maxRecDepth 65536 in
set_option maxHeartbeats 40000000 in
theorem rmOeS (l : Launch) (Z : State) (a0 : Array Value) (hw : ∀ d ∈ tables_1, d.before a0 Z = true) (a b : Addr) (h0 : Heap) (n0 : Nat) (Z0 : n0 ≤ h0.size) (E2 : Exa Z h0 b "java/lang/String") :
    Pays l Z (⟨"com/example/narada/narada/ObjectAddress", "equals", "(Ljava/lang/Object;)Z"⟩ : MethodName) prog_13_method_4_code 2 (some .boolean) [] ({ frames := 0, cells := 0, slots := 0, locals := 0 } : Room) #[(.ref a), (.ref b)] h0 (fun v h L => v = some (.int (0 : Int32)) ∧ Fr n0 L ∧ h = h0) := by
  refine Pays.walk (plainFor_of_name pn_3) (fun m => ef_9 m a b ) ?_
  intro p e s m below meth c T0 X0 hx hby hml hown hnm hZ e0 hret hlk
  have N0 := Fr.nil n0
  refine Goes.on (T' := T0) (g' := (mkF m 1 #[.val (.ref a), .val (.ref b)] [(.ref b)])) (fun _ k => XS.aloadN X0.here hx rfl (hb hby d23_0) rfl rfl k) ?_
  obtain ⟨T1, X1, e1, st1⟩ := instNo X0 hx hZ hown (own_w hw 113 rfl) e0 E2 (nsNo (own_w hw 114 rfl) (own_w hw 38 rfl) (NS.step (own_w hw 114 rfl) (nsRoot (own_w hw 115 rfl) (own_w hw 38 rfl) (by decide)) (by decide)) (by decide)) (g := (mkF m 1 #[.val (.ref a), .val (.ref b)] [(.ref b)])) rfl rfl (hb hby d23_1)
  refine Goes.on (T' := T1) (g' := (mkF m 44 #[.val (.ref a), .val (.ref b)] [(.int (0 : Int32))])) (fun _ k => st1 _ (XS.ifYes X1.here hx rfl (pc0 := 4) (pc' := 43) rfl (hb hby d23_4) rfl (XT.i0_eq_t (by decide)) (by decide) (by decide) (XS.iconst X1.here hx rfl (hb hby d23_43) k))) ?_
  exact Goes.retB X1 hx hlk hret (Or.inl rfl) (hb hby d23_44) (by decide) (by decide) ⟨rfl, N0, e1⟩
theorem d28_0 : decode jdk_41_method_11_code 0 = .ok (.iload_n 0, 1) := by decide +kernel
theorem d28_1 : decode jdk_41_method_11_code 1 = .ok (.ifCond .lt 8, 3) := by decide +kernel
theorem d28_4 : decode jdk_41_method_11_code 4 = .ok (.iload_n 0, 1) := by decide +kernel
theorem d28_5 : decode jdk_41_method_11_code 5 = .ok (.iload_n 1, 1) := by decide +kernel
theorem d28_6 : decode jdk_41_method_11_code 6 = .ok (.if_icmp .lt 10, 3) := by decide +kernel
theorem d28_16 : decode jdk_41_method_11_code 16 = .ok (.iload_n 0, 1) := by decide +kernel
theorem d28_17 : decode jdk_41_method_11_code 17 = .ok (.ireturn, 1) := by decide +kernel
theorem ef_11 (m : MethodId) (x0 : Int32) (x1 : Int32) (x2 : Value) (c2 : x2.category = 1) : entryFrame m #[(.int x0), (.int x1), x2] 3 = mkF m 0 #[.val (.int x0), .val (.int x1), .val x2] [] := by have q0 : ((.int x0) : Value).category = 1 := rfl; have q1 : ((.int x1) : Value).category = 1 := rfl; simp [entryFrame, mkF, argsToLocals, c2, q0, q1]
theorem pn_4 : plainName "jdk/internal/util/Preconditions" = true := by first | (simp [plainName, overriddenIn]; done) | decide +kernel
set_option maxRecDepth 65536 in
set_option maxHeartbeats 40000000 in
theorem rmPc1_0 (l : Launch) (Z : State) (a0 : Array Value) (hw : ∀ d ∈ tables_1, d.before a0 Z = true) (sf : Value) (h0 : Heap) (n0 : Nat) (Z0 : n0 ≤ h0.size) (hsf : sf.isRef = true) :
    Pays l Z (⟨"jdk/internal/util/Preconditions", "checkIndex", "(IILjava/util/function/BiFunction;)I"⟩ : MethodName) jdk_41_method_11_code 3 (some .int) [] ({ frames := 0, cells := 0, slots := 0, locals := 0 } : Room) #[(.int (0 : Int32)), (.int (1 : Int32)), sf] h0 (fun v h L => v = some (.int (0 : Int32)) ∧ Fr n0 L ∧ h = h0) := by
  refine Pays.walk (plainFor_of_name pn_4) (fun m => ef_11 m (0 : Int32) (1 : Int32) sf (XT.cat1 hsf)) ?_
  intro p e s m below meth c T0 X0 hx hby hml hown hnm hZ e0 hret hlk
  have N0 := Fr.nil n0
  refine Goes.on (T' := T0) (g' := (mkF m 17 #[.val (.int (0 : Int32)), .val (.int (1 : Int32)), .val sf] [(.int (0 : Int32))])) (fun _ k => XS.iloadN X0.here hx rfl (hb hby d28_0) rfl (XS.ifNo X0.here hx rfl (hb hby d28_1) rfl (XT.i0_lt_f (by decide)) (XS.iloadN X0.here hx rfl (hb hby d28_4) rfl (XS.iloadN X0.here hx rfl (hb hby d28_5) rfl (XS.icmpYes X0.here hx rfl (pc0 := 6) (pc' := 16) rfl (hb hby d28_6) rfl (XT.ii_lt_t (by decide)) (by decide) (by decide) (XS.iloadN X0.here hx rfl (hb hby d28_16) rfl k)))))) ?_
  exact Goes.retI X0 hx hlk hret (hb hby d28_17) (by decide) (by decide) ⟨rfl, N0, e0⟩
theorem d27_0 : decode jdk_42_method_155_code 0 = .ok (.iload_n 0, 1) := by decide +kernel
theorem d27_1 : decode jdk_42_method_155_code 1 = .ok (.iload_n 1, 1) := by decide +kernel
theorem d27_2 : decode jdk_42_method_155_code 2 = .ok (.getstatic 1053, 3) := by decide +kernel
theorem pd_9 : parseMethodDescriptor "(IILjava/util/function/BiFunction;)I" = some ⟨[.int, .int, (.object "java/util/function/BiFunction")], some .int⟩ := by decide +kernel
theorem d27_5 : decode jdk_42_method_155_code 5 = .ok (.invokestatic 1059, 3) := by decide +kernel
theorem d27_8 : decode jdk_42_method_155_code 8 = .ok (.pop, 1) := by decide +kernel
theorem d27_9 : decode jdk_42_method_155_code 9 = .ok (.return_, 1) := by decide +kernel
set_option maxRecDepth 65536 in
set_option maxHeartbeats 40000000 in
theorem rmSc1_0 (l : Launch) (Z : State) (a0 : Array Value) (hw : ∀ d ∈ tables_1, d.before a0 Z = true)  (h0 : Heap) (n0 : Nat) (Z0 : n0 ≤ h0.size) (O0 : Old Z n0 h0) (sf : Value) (SF : Sta Z Z.heap "jdk/internal/util/Preconditions" "SIOOBE_FORMATTER" "Ljava/util/function/BiFunction;" sf) (hsf : sf.isRef = true) :
    Pays l Z (⟨"java/lang/String", "checkIndex", "(II)V"⟩ : MethodName) jdk_42_method_155_code 2 none [] ({ frames := 1, cells := 0, slots := 0, locals := 14 } : Room) #[(.int (0 : Int32)), (.int (1 : Int32))] h0 (fun v h L => v = none ∧ Fr n0 L ∧ h = h0) := by
  refine Pays.walk (plainFor_of_name pn_1) (fun m => ef_2 m (0 : Int32) (1 : Int32) ) ?_
  intro p e s m below meth c T0 X0 hx hby hml hown hnm hZ e0 hret hlk
  have N0 := Fr.nil n0
  refine Goes.on (T' := T0) (g' := (mkF m 2 #[.val (.int (0 : Int32)), .val (.int (1 : Int32))] [(.int (1 : Int32)), (.int (0 : Int32))])) (fun _ k => XS.iloadN X0.here hx rfl (hb hby d27_0) rfl (XS.iloadN X0.here hx rfl (hb hby d27_1) rfl k)) ?_
  obtain ⟨T1, X1, e1, st1⟩ := getS (host := "") X0 hx hZ hown (own_w hw 131 rfl) Via.refl e0 (Sta.ext O0.2 SF) (g := (mkF m 2 #[.val (.int (0 : Int32)), .val (.int (1 : Int32))] [(.int (1 : Int32)), (.int (0 : Int32))])) rfl (hb hby d27_2)
  refine Goes.on (T' := T1) (g' := (mkF m 5 #[.val (.int (0 : Int32)), .val (.int (1 : Int32))] [sf, (.int (1 : Int32)), (.int (0 : Int32))])) (fun _ k => st1 _ k) ?_
  refine Goes.callS X1 hx hZ 0 hown (own_w hw 133 rfl) (own_w hw 134 rfl) (own_w hw 132 rfl) (own_w hw 135 rfl) (by decide) e1 (rmPc1_0 l Z a0 hw sf h0 n0 Z0 hsf) (by decide) (by decide) (by decide) (by decide) rfl (by rw [hml]; rfl) (argsL := [(.int (0 : Int32)), (.int (1 : Int32)), sf]) (rest := []) rfl (lenOf pd_9 rfl) rfl (by show 2 * 0 + _ ≤ _; exact Nat.le_of_eq rfl) (hb hby d27_5) ?_
  intro v2 T2 L2 X2 hQ2
  obtain ⟨rfl, N2q, e2⟩ := hQ2
  have N2 := Fr.app N0 N2q
  show Goes p e below _ T2 (mkF m 8 #[.val (.int (0 : Int32)), .val (.int (1 : Int32))] [(.int (0 : Int32))])
  refine Goes.on (T' := T2) (g' := (mkF m 9 #[.val (.int (0 : Int32)), .val (.int (1 : Int32))] [])) (fun _ k => XS.pop X2.here hx rfl (hb hby d27_8) rfl rfl k) ?_
  exact Goes.retV X2 hx hlk hret (hb hby d27_9) (by decide) (by decide) ⟨rfl, N2, e2⟩
theorem d26_0 : decode jdk_43_method_2_code 0 = .ok (.iload_n 1, 1) := by decide +kernel
theorem d26_1 : decode jdk_43_method_2_code 1 = .ok (.aload_n 0, 1) := by decide +kernel
theorem d26_2 : decode jdk_43_method_2_code 2 = .ok (.arraylength, 1) := by decide +kernel
theorem pd_10 : parseMethodDescriptor "(II)V" = some ⟨[.int, .int], none⟩ := by decide +kernel
theorem d26_3 : decode jdk_43_method_2_code 3 = .ok (.invokestatic 9, 3) := by decide +kernel
theorem d26_6 : decode jdk_43_method_2_code 6 = .ok (.aload_n 0, 1) := by decide +kernel
theorem d26_7 : decode jdk_43_method_2_code 7 = .ok (.iload_n 1, 1) := by decide +kernel
theorem d26_8 : decode jdk_43_method_2_code 8 = .ok (.baload, 1) := by decide +kernel
theorem d26_9 : decode jdk_43_method_2_code 9 = .ok (.sipush 255, 3) := by decide +kernel
theorem d26_12 : decode jdk_43_method_2_code 12 = .ok (.iand, 1) := by decide +kernel
theorem d26_13 : decode jdk_43_method_2_code 13 = .ok (.i2c, 1) := by decide +kernel
theorem d26_14 : decode jdk_43_method_2_code 14 = .ok (.ireturn, 1) := by decide +kernel
set_option maxRecDepth 65536 in
set_option maxHeartbeats 40000000 in
theorem rmLc1_0 (l : Launch) (Z : State) (a0 : Array Value) (hw : ∀ d ∈ tables_1, d.before a0 Z = true) (ya : Addr) (u0 : Int32) (h0 : Heap) (n0 : Nat) (Z0 : n0 ≤ h0.size) (O0 : Old Z n0 h0) (BA : Arf Z h0 ya .byte Value.int 1 (fun i => ([u0] : List Int32).getD i 0)) (sf : Value) (SF : Sta Z Z.heap "jdk/internal/util/Preconditions" "SIOOBE_FORMATTER" "Ljava/util/function/BiFunction;" sf) (hsf : sf.isRef = true) :
    Pays l Z (⟨"java/lang/StringLatin1", "charAt", "([BI)C"⟩ : MethodName) jdk_43_method_2_code 2 (some .char) [] ({ frames := 2, cells := 0, slots := 0, locals := 27 } : Room) #[(.ref ya), (.int (0 : Int32))] h0 (fun v h L => v = some (.int ((u0 &&& (255 : Int32)).toUInt32.toUInt16.toUInt32.toInt32)) ∧ Fr n0 L ∧ h = h0) := by
  refine Pays.walk (plainFor_of_name pn_2) (fun m => ef_6 m ya (0 : Int32) ) ?_
  intro p e s m below meth c T0 X0 hx hby hml hown hnm hZ e0 hret hlk
  have N0 := Fr.nil n0
  refine Goes.on (T' := T0) (g' := (mkF m 3 #[.val (.ref ya), .val (.int (0 : Int32))] [(.int (1 : Int32)), (.int (0 : Int32))])) (fun _ k => XS.iloadN X0.here hx rfl (hb hby d26_0) rfl (XS.aloadN X0.here hx rfl (hb hby d26_1) rfl rfl (aLenm X0 hx hZ e0 BA (hb hby d26_2) k))) ?_
  refine Goes.callS X0 hx hZ 0 hown (own_w hw 128 rfl) (own_w hw 129 rfl) (own_w hw 9 rfl) (own_w hw 130 rfl) (by decide) e0 (rmSc1_0 l Z a0 hw h0 n0 Z0 O0 sf SF hsf) (by decide) (by decide) (by decide) (by decide) rfl (by rw [hml]; rfl) (argsL := [(.int (0 : Int32)), (.int (1 : Int32))]) (rest := []) rfl (lenOf pd_10 rfl) rfl (by show 2 * 0 + _ ≤ _; exact Nat.le_of_eq rfl) (hb hby d26_3) ?_
  intro v2 T2 L2 X2 hQ2
  obtain ⟨rfl, N2q, e2⟩ := hQ2
  have N2 := Fr.app N0 N2q
  show Goes p e below _ T2 (mkF m 6 #[.val (.ref ya), .val (.int (0 : Int32))] [])
  refine Goes.on (T' := T2) (g' := (mkF m 14 #[.val (.ref ya), .val (.int (0 : Int32))] [(.int ((u0 &&& (255 : Int32)).toUInt32.toUInt16.toUInt32.toInt32))])) (fun _ k => XS.aloadN X2.here hx rfl (hb hby d26_6) rfl rfl (XS.iloadN X2.here hx rfl (hb hby d26_7) rfl (ldYm X2 hx hZ e2 BA (by decide) (hb hby d26_8) (XS.sipush X2.here hx rfl (hb hby d26_9) (XS.iand X2.here hx rfl (hb hby d26_12) rfl (XS.i2c X2.here hx rfl (hb hby d26_13) rfl k)))))) ?_
  exact Goes.retC X2 hx hlk hret (narC _) (hb hby d26_14) (by decide) (by decide) ⟨rfl, N2, e2⟩
theorem d25_0 : decode jdk_42_method_56_code 0 = .ok (.aload_n 0, 1) := by decide +kernel
theorem d25_1 : decode jdk_42_method_56_code 1 = .ok (.invokevirtual 492, 3) := by decide +kernel
theorem d25_4 : decode jdk_42_method_56_code 4 = .ok (.ifCond .eq 12, 3) := by decide +kernel
theorem d25_7 : decode jdk_42_method_56_code 7 = .ok (.aload_n 0, 1) := by decide +kernel
theorem d25_8 : decode jdk_42_method_56_code 8 = .ok (.getfield 9, 3) := by decide +kernel
theorem d25_11 : decode jdk_42_method_56_code 11 = .ok (.iload_n 1, 1) := by decide +kernel
theorem pd_11 : parseMethodDescriptor "([BI)C" = some ⟨[(.array .byte), .int], some .char⟩ := by decide +kernel
theorem d25_12 : decode jdk_42_method_56_code 12 = .ok (.invokestatic 495, 3) := by decide +kernel
theorem d25_15 : decode jdk_42_method_56_code 15 = .ok (.ireturn, 1) := by decide +kernel
set_option maxRecDepth 65536 in
set_option maxHeartbeats 40000000 in
theorem rmCh1_0 (l : Launch) (Z : State) (a0 : Array Value) (hw : ∀ d ∈ tables_1, d.before a0 Z = true) (a : Addr) (c0 : Int32) (h0 : Heap) (n0 : Nat) (Z0 : n0 ≤ h0.size) (O0 : Old Z n0 h0) (cs : Int32) (SC : Sta Z Z.heap "java/lang/String" "COMPACT_STRINGS" "Z" (.int cs)) (hcs : ¬ cs = (0 : Int32)) (ya : Addr) (ka : ClassId) (PA : Str Z h0 a ya ka (Int32.ofNat 1) [Value.int (c0.toInt8.toInt32)]) (sf : Value) (SF : Sta Z Z.heap "jdk/internal/util/Preconditions" "SIOOBE_FORMATTER" "Ljava/util/function/BiFunction;" sf) (hsf : sf.isRef = true) (hC : own_CH c0) :
    Pays l Z (⟨"java/lang/String", "charAt", "(I)C"⟩ : MethodName) jdk_42_method_56_code 2 (some .char) [] ({ frames := 3, cells := 0, slots := 0, locals := 40 } : Room) #[(.ref a), (.int (0 : Int32))] h0 (fun v h L => v = some (.int c0) ∧ Fr n0 L ∧ h = h0) := by
  refine Pays.walk (plainFor_of_name pn_1) (fun m => ef_6 m a (0 : Int32) ) ?_
  intro p e s m below meth c T0 X0 hx hby hml hown hnm hZ e0 hret hlk
  have N0 := Fr.nil n0
  have BA : Arf Z h0 ya .byte Value.int 1 (fun i => ([(c0.toInt8.toInt32)] : List Int32).getD i 0) := Arv.arf PA.2.2.2 (by decide) (own_lt1 rfl)
  refine Goes.on (T' := T0) (g' := (mkF m 1 #[.val (.ref a), .val (.int (0 : Int32))] [(.ref a)])) (fun _ k => XS.aloadN X0.here hx rfl (hb hby d25_0) rfl rfl k) ?_
  refine Goes.callV X0 hx hZ 0 hown (own_w hw 73 rfl) (own_w hw 74 rfl) (notFace_of_selects (args := #[]) (mvT hZ (own_w hw 76 rfl))) (own_w hw 76 rfl) (own_w hw 75 rfl) (own_w hw 9 rfl) (own_w hw 77 rfl) (by decide) e0 PA.1 (rmIl_1 l Z a0 hw a (c0.toInt8.toInt32) h0 n0 Z0 O0 cs SC hcs ya ka PA) (by decide) (by decide) (by decide) (by decide) rfl (by rw [hml]; rfl) (argsL := []) (rest := []) rfl (lenOf pd_4 rfl) rfl (by show 2 * 0 + _ ≤ _; exact Nat.le_of_eq rfl) (hb hby d25_1) ?_
  intro v1 T1 L1 X1 hQ1
  obtain ⟨rfl, N1q, e1⟩ := hQ1
  have N1 := Fr.app N0 N1q
  show Goes p e below _ T1 (mkF m 4 #[.val (.ref a), .val (.int (0 : Int32))] [(.int (1 : Int32))])
  refine Goes.on (T' := T1) (g' := (mkF m 8 #[.val (.ref a), .val (.int (0 : Int32))] [(.ref a)])) (fun _ k => XS.ifNo X1.here hx rfl (hb hby d25_4) rfl (XT.i0_eq_f (by decide)) (XS.aloadN X1.here hx rfl (hb hby d25_7) rfl rfl k)) ?_
  obtain ⟨T2, X2, e2, st2⟩ := getF X1 hx hZ hown (host := "") (Or.inl (own_w hw 35 rfl)) Via.refl e1 PA.2.2.1 (g := (mkF m 8 #[.val (.ref a), .val (.int (0 : Int32))] [(.ref a)])) rfl rfl (hb hby d25_8)
  refine Goes.on (T' := T2) (g' := (mkF m 12 #[.val (.ref a), .val (.int (0 : Int32))] [(.int (0 : Int32)), (.ref ya)])) (fun _ k => st2 _ (XS.iloadN X2.here hx rfl (hb hby d25_11) rfl k)) ?_
  refine Goes.callS X2 hx hZ 0 hown (own_w hw 125 rfl) (own_w hw 126 rfl) (own_w hw 60 rfl) (own_w hw 127 rfl) (by decide) e2 (rmLc1_0 l Z a0 hw ya (c0.toInt8.toInt32) h0 n0 Z0 O0 BA sf SF hsf) (by decide) (by decide) (by decide) (by decide) rfl (by rw [hml]; rfl) (argsL := [(.ref ya), (.int (0 : Int32))]) (rest := []) rfl (lenOf pd_11 rfl) rfl (by show 2 * 0 + _ ≤ _; exact Nat.le_of_eq rfl) (hb hby d25_12) ?_
  intro v3 T3 L3 X3 hQ3
  obtain ⟨rfl, N3q, e3⟩ := hQ3
  have N3 := Fr.app N1 N3q
  show Goes p e below _ T3 (mkF m 15 #[.val (.ref a), .val (.int (0 : Int32))] [(.int (((c0.toInt8.toInt32) &&& (255 : Int32)).toUInt32.toUInt16.toUInt32.toInt32))])
  exact Goes.retC X3 hx hlk hret (narC _) (hb hby d25_15) (by decide) (by decide) ⟨congrArg (fun q => some (Value.int q)) (own_up hC), N3, e3⟩
set_option maxRecDepth 65536 in
set_option maxHeartbeats 40000000 in
theorem rmPc2_0 (l : Launch) (Z : State) (a0 : Array Value) (hw : ∀ d ∈ tables_1, d.before a0 Z = true) (sf : Value) (h0 : Heap) (n0 : Nat) (Z0 : n0 ≤ h0.size) (hsf : sf.isRef = true) :
    Pays l Z (⟨"jdk/internal/util/Preconditions", "checkIndex", "(IILjava/util/function/BiFunction;)I"⟩ : MethodName) jdk_41_method_11_code 3 (some .int) [] ({ frames := 0, cells := 0, slots := 0, locals := 0 } : Room) #[(.int (0 : Int32)), (.int (2 : Int32)), sf] h0 (fun v h L => v = some (.int (0 : Int32)) ∧ Fr n0 L ∧ h = h0) := by
  refine Pays.walk (plainFor_of_name pn_4) (fun m => ef_11 m (0 : Int32) (2 : Int32) sf (XT.cat1 hsf)) ?_
  intro p e s m below meth c T0 X0 hx hby hml hown hnm hZ e0 hret hlk
  have N0 := Fr.nil n0
  refine Goes.on (T' := T0) (g' := (mkF m 17 #[.val (.int (0 : Int32)), .val (.int (2 : Int32)), .val sf] [(.int (0 : Int32))])) (fun _ k => XS.iloadN X0.here hx rfl (hb hby d28_0) rfl (XS.ifNo X0.here hx rfl (hb hby d28_1) rfl (XT.i0_lt_f (by decide)) (XS.iloadN X0.here hx rfl (hb hby d28_4) rfl (XS.iloadN X0.here hx rfl (hb hby d28_5) rfl (XS.icmpYes X0.here hx rfl (pc0 := 6) (pc' := 16) rfl (hb hby d28_6) rfl (XT.ii_lt_t (by decide)) (by decide) (by decide) (XS.iloadN X0.here hx rfl (hb hby d28_16) rfl k)))))) ?_
  exact Goes.retI X0 hx hlk hret (hb hby d28_17) (by decide) (by decide) ⟨rfl, N0, e0⟩
set_option maxRecDepth 65536 in
set_option maxHeartbeats 40000000 in
theorem rmSc2_0 (l : Launch) (Z : State) (a0 : Array Value) (hw : ∀ d ∈ tables_1, d.before a0 Z = true)  (h0 : Heap) (n0 : Nat) (Z0 : n0 ≤ h0.size) (O0 : Old Z n0 h0) (sf : Value) (SF : Sta Z Z.heap "jdk/internal/util/Preconditions" "SIOOBE_FORMATTER" "Ljava/util/function/BiFunction;" sf) (hsf : sf.isRef = true) :
    Pays l Z (⟨"java/lang/String", "checkIndex", "(II)V"⟩ : MethodName) jdk_42_method_155_code 2 none [] ({ frames := 1, cells := 0, slots := 0, locals := 14 } : Room) #[(.int (0 : Int32)), (.int (2 : Int32))] h0 (fun v h L => v = none ∧ Fr n0 L ∧ h = h0) := by
  refine Pays.walk (plainFor_of_name pn_1) (fun m => ef_2 m (0 : Int32) (2 : Int32) ) ?_
  intro p e s m below meth c T0 X0 hx hby hml hown hnm hZ e0 hret hlk
  have N0 := Fr.nil n0
  refine Goes.on (T' := T0) (g' := (mkF m 2 #[.val (.int (0 : Int32)), .val (.int (2 : Int32))] [(.int (2 : Int32)), (.int (0 : Int32))])) (fun _ k => XS.iloadN X0.here hx rfl (hb hby d27_0) rfl (XS.iloadN X0.here hx rfl (hb hby d27_1) rfl k)) ?_
  obtain ⟨T1, X1, e1, st1⟩ := getS (host := "") X0 hx hZ hown (own_w hw 131 rfl) Via.refl e0 (Sta.ext O0.2 SF) (g := (mkF m 2 #[.val (.int (0 : Int32)), .val (.int (2 : Int32))] [(.int (2 : Int32)), (.int (0 : Int32))])) rfl (hb hby d27_2)
  refine Goes.on (T' := T1) (g' := (mkF m 5 #[.val (.int (0 : Int32)), .val (.int (2 : Int32))] [sf, (.int (2 : Int32)), (.int (0 : Int32))])) (fun _ k => st1 _ k) ?_
  refine Goes.callS X1 hx hZ 0 hown (own_w hw 133 rfl) (own_w hw 134 rfl) (own_w hw 132 rfl) (own_w hw 135 rfl) (by decide) e1 (rmPc2_0 l Z a0 hw sf h0 n0 Z0 hsf) (by decide) (by decide) (by decide) (by decide) rfl (by rw [hml]; rfl) (argsL := [(.int (0 : Int32)), (.int (2 : Int32)), sf]) (rest := []) rfl (lenOf pd_9 rfl) rfl (by show 2 * 0 + _ ≤ _; exact Nat.le_of_eq rfl) (hb hby d27_5) ?_
  intro v2 T2 L2 X2 hQ2
  obtain ⟨rfl, N2q, e2⟩ := hQ2
  have N2 := Fr.app N0 N2q
  show Goes p e below _ T2 (mkF m 8 #[.val (.int (0 : Int32)), .val (.int (2 : Int32))] [(.int (0 : Int32))])
  refine Goes.on (T' := T2) (g' := (mkF m 9 #[.val (.int (0 : Int32)), .val (.int (2 : Int32))] [])) (fun _ k => XS.pop X2.here hx rfl (hb hby d27_8) rfl rfl k) ?_
  exact Goes.retV X2 hx hlk hret (hb hby d27_9) (by decide) (by decide) ⟨rfl, N2, e2⟩
set_option maxRecDepth 65536 in
set_option maxHeartbeats 40000000 in
theorem rmLc2_0 (l : Launch) (Z : State) (a0 : Array Value) (hw : ∀ d ∈ tables_1, d.before a0 Z = true) (ya : Addr) (u0 u1 : Int32) (h0 : Heap) (n0 : Nat) (Z0 : n0 ≤ h0.size) (O0 : Old Z n0 h0) (BA : Arf Z h0 ya .byte Value.int 2 (fun i => ([u0, u1] : List Int32).getD i 0)) (sf : Value) (SF : Sta Z Z.heap "jdk/internal/util/Preconditions" "SIOOBE_FORMATTER" "Ljava/util/function/BiFunction;" sf) (hsf : sf.isRef = true) :
    Pays l Z (⟨"java/lang/StringLatin1", "charAt", "([BI)C"⟩ : MethodName) jdk_43_method_2_code 2 (some .char) [] ({ frames := 2, cells := 0, slots := 0, locals := 27 } : Room) #[(.ref ya), (.int (0 : Int32))] h0 (fun v h L => v = some (.int ((u0 &&& (255 : Int32)).toUInt32.toUInt16.toUInt32.toInt32)) ∧ Fr n0 L ∧ h = h0) := by
  refine Pays.walk (plainFor_of_name pn_2) (fun m => ef_6 m ya (0 : Int32) ) ?_
  intro p e s m below meth c T0 X0 hx hby hml hown hnm hZ e0 hret hlk
  have N0 := Fr.nil n0
  refine Goes.on (T' := T0) (g' := (mkF m 3 #[.val (.ref ya), .val (.int (0 : Int32))] [(.int (2 : Int32)), (.int (0 : Int32))])) (fun _ k => XS.iloadN X0.here hx rfl (hb hby d26_0) rfl (XS.aloadN X0.here hx rfl (hb hby d26_1) rfl rfl (aLenm X0 hx hZ e0 BA (hb hby d26_2) k))) ?_
  refine Goes.callS X0 hx hZ 0 hown (own_w hw 128 rfl) (own_w hw 129 rfl) (own_w hw 9 rfl) (own_w hw 130 rfl) (by decide) e0 (rmSc2_0 l Z a0 hw h0 n0 Z0 O0 sf SF hsf) (by decide) (by decide) (by decide) (by decide) rfl (by rw [hml]; rfl) (argsL := [(.int (0 : Int32)), (.int (2 : Int32))]) (rest := []) rfl (lenOf pd_10 rfl) rfl (by show 2 * 0 + _ ≤ _; exact Nat.le_of_eq rfl) (hb hby d26_3) ?_
  intro v2 T2 L2 X2 hQ2
  obtain ⟨rfl, N2q, e2⟩ := hQ2
  have N2 := Fr.app N0 N2q
  show Goes p e below _ T2 (mkF m 6 #[.val (.ref ya), .val (.int (0 : Int32))] [])
  refine Goes.on (T' := T2) (g' := (mkF m 14 #[.val (.ref ya), .val (.int (0 : Int32))] [(.int ((u0 &&& (255 : Int32)).toUInt32.toUInt16.toUInt32.toInt32))])) (fun _ k => XS.aloadN X2.here hx rfl (hb hby d26_6) rfl rfl (XS.iloadN X2.here hx rfl (hb hby d26_7) rfl (ldYm X2 hx hZ e2 BA (by decide) (hb hby d26_8) (XS.sipush X2.here hx rfl (hb hby d26_9) (XS.iand X2.here hx rfl (hb hby d26_12) rfl (XS.i2c X2.here hx rfl (hb hby d26_13) rfl k)))))) ?_
  exact Goes.retC X2 hx hlk hret (narC _) (hb hby d26_14) (by decide) (by decide) ⟨rfl, N2, e2⟩
set_option maxRecDepth 65536 in
set_option maxHeartbeats 40000000 in
theorem rmCh2_0 (l : Launch) (Z : State) (a0 : Array Value) (hw : ∀ d ∈ tables_1, d.before a0 Z = true) (a : Addr) (c0 c1 : Int32) (h0 : Heap) (n0 : Nat) (Z0 : n0 ≤ h0.size) (O0 : Old Z n0 h0) (cs : Int32) (SC : Sta Z Z.heap "java/lang/String" "COMPACT_STRINGS" "Z" (.int cs)) (hcs : ¬ cs = (0 : Int32)) (ya : Addr) (ka : ClassId) (PA : Str Z h0 a ya ka (Int32.ofNat 2) [Value.int (c0.toInt8.toInt32), Value.int (c1.toInt8.toInt32)]) (sf : Value) (SF : Sta Z Z.heap "jdk/internal/util/Preconditions" "SIOOBE_FORMATTER" "Ljava/util/function/BiFunction;" sf) (hsf : sf.isRef = true) (hC : own_CH c0) :
    Pays l Z (⟨"java/lang/String", "charAt", "(I)C"⟩ : MethodName) jdk_42_method_56_code 2 (some .char) [] ({ frames := 3, cells := 0, slots := 0, locals := 40 } : Room) #[(.ref a), (.int (0 : Int32))] h0 (fun v h L => v = some (.int c0) ∧ Fr n0 L ∧ h = h0) := by
  refine Pays.walk (plainFor_of_name pn_1) (fun m => ef_6 m a (0 : Int32) ) ?_
  intro p e s m below meth c T0 X0 hx hby hml hown hnm hZ e0 hret hlk
  have N0 := Fr.nil n0
  have BA : Arf Z h0 ya .byte Value.int 2 (fun i => ([(c0.toInt8.toInt32), (c1.toInt8.toInt32)] : List Int32).getD i 0) := Arv.arf PA.2.2.2 (by decide) (own_lt2 rfl rfl)
  refine Goes.on (T' := T0) (g' := (mkF m 1 #[.val (.ref a), .val (.int (0 : Int32))] [(.ref a)])) (fun _ k => XS.aloadN X0.here hx rfl (hb hby d25_0) rfl rfl k) ?_
  refine Goes.callV X0 hx hZ 0 hown (own_w hw 73 rfl) (own_w hw 74 rfl) (notFace_of_selects (args := #[]) (mvT hZ (own_w hw 76 rfl))) (own_w hw 76 rfl) (own_w hw 75 rfl) (own_w hw 9 rfl) (own_w hw 77 rfl) (by decide) e0 PA.1 (rmIl_2 l Z a0 hw a (c0.toInt8.toInt32) (c1.toInt8.toInt32) h0 n0 Z0 O0 cs SC hcs ya ka PA) (by decide) (by decide) (by decide) (by decide) rfl (by rw [hml]; rfl) (argsL := []) (rest := []) rfl (lenOf pd_4 rfl) rfl (by show 2 * 0 + _ ≤ _; exact Nat.le_of_eq rfl) (hb hby d25_1) ?_
  intro v1 T1 L1 X1 hQ1
  obtain ⟨rfl, N1q, e1⟩ := hQ1
  have N1 := Fr.app N0 N1q
  show Goes p e below _ T1 (mkF m 4 #[.val (.ref a), .val (.int (0 : Int32))] [(.int (1 : Int32))])
  refine Goes.on (T' := T1) (g' := (mkF m 8 #[.val (.ref a), .val (.int (0 : Int32))] [(.ref a)])) (fun _ k => XS.ifNo X1.here hx rfl (hb hby d25_4) rfl (XT.i0_eq_f (by decide)) (XS.aloadN X1.here hx rfl (hb hby d25_7) rfl rfl k)) ?_
  obtain ⟨T2, X2, e2, st2⟩ := getF X1 hx hZ hown (host := "") (Or.inl (own_w hw 35 rfl)) Via.refl e1 PA.2.2.1 (g := (mkF m 8 #[.val (.ref a), .val (.int (0 : Int32))] [(.ref a)])) rfl rfl (hb hby d25_8)
  refine Goes.on (T' := T2) (g' := (mkF m 12 #[.val (.ref a), .val (.int (0 : Int32))] [(.int (0 : Int32)), (.ref ya)])) (fun _ k => st2 _ (XS.iloadN X2.here hx rfl (hb hby d25_11) rfl k)) ?_
  refine Goes.callS X2 hx hZ 0 hown (own_w hw 125 rfl) (own_w hw 126 rfl) (own_w hw 60 rfl) (own_w hw 127 rfl) (by decide) e2 (rmLc2_0 l Z a0 hw ya (c0.toInt8.toInt32) (c1.toInt8.toInt32) h0 n0 Z0 O0 BA sf SF hsf) (by decide) (by decide) (by decide) (by decide) rfl (by rw [hml]; rfl) (argsL := [(.ref ya), (.int (0 : Int32))]) (rest := []) rfl (lenOf pd_11 rfl) rfl (by show 2 * 0 + _ ≤ _; exact Nat.le_of_eq rfl) (hb hby d25_12) ?_
  intro v3 T3 L3 X3 hQ3
  obtain ⟨rfl, N3q, e3⟩ := hQ3
  have N3 := Fr.app N1 N3q
  show Goes p e below _ T3 (mkF m 15 #[.val (.ref a), .val (.int (0 : Int32))] [(.int (((c0.toInt8.toInt32) &&& (255 : Int32)).toUInt32.toUInt16.toUInt32.toInt32))])
  exact Goes.retC X3 hx hlk hret (narC _) (hb hby d25_15) (by decide) (by decide) ⟨congrArg (fun q => some (Value.int q)) (own_up hC), N3, e3⟩
set_option maxRecDepth 65536 in
set_option maxHeartbeats 40000000 in
theorem rmPc2_1 (l : Launch) (Z : State) (a0 : Array Value) (hw : ∀ d ∈ tables_1, d.before a0 Z = true) (sf : Value) (h0 : Heap) (n0 : Nat) (Z0 : n0 ≤ h0.size) (hsf : sf.isRef = true) :
    Pays l Z (⟨"jdk/internal/util/Preconditions", "checkIndex", "(IILjava/util/function/BiFunction;)I"⟩ : MethodName) jdk_41_method_11_code 3 (some .int) [] ({ frames := 0, cells := 0, slots := 0, locals := 0 } : Room) #[(.int (1 : Int32)), (.int (2 : Int32)), sf] h0 (fun v h L => v = some (.int (1 : Int32)) ∧ Fr n0 L ∧ h = h0) := by
  refine Pays.walk (plainFor_of_name pn_4) (fun m => ef_11 m (1 : Int32) (2 : Int32) sf (XT.cat1 hsf)) ?_
  intro p e s m below meth c T0 X0 hx hby hml hown hnm hZ e0 hret hlk
  have N0 := Fr.nil n0
  refine Goes.on (T' := T0) (g' := (mkF m 17 #[.val (.int (1 : Int32)), .val (.int (2 : Int32)), .val sf] [(.int (1 : Int32))])) (fun _ k => XS.iloadN X0.here hx rfl (hb hby d28_0) rfl (XS.ifNo X0.here hx rfl (hb hby d28_1) rfl (XT.i0_lt_f (by decide)) (XS.iloadN X0.here hx rfl (hb hby d28_4) rfl (XS.iloadN X0.here hx rfl (hb hby d28_5) rfl (XS.icmpYes X0.here hx rfl (pc0 := 6) (pc' := 16) rfl (hb hby d28_6) rfl (XT.ii_lt_t (by decide)) (by decide) (by decide) (XS.iloadN X0.here hx rfl (hb hby d28_16) rfl k)))))) ?_
  exact Goes.retI X0 hx hlk hret (hb hby d28_17) (by decide) (by decide) ⟨rfl, N0, e0⟩
set_option maxRecDepth 65536 in
set_option maxHeartbeats 40000000 in
theorem rmSc2_1 (l : Launch) (Z : State) (a0 : Array Value) (hw : ∀ d ∈ tables_1, d.before a0 Z = true)  (h0 : Heap) (n0 : Nat) (Z0 : n0 ≤ h0.size) (O0 : Old Z n0 h0) (sf : Value) (SF : Sta Z Z.heap "jdk/internal/util/Preconditions" "SIOOBE_FORMATTER" "Ljava/util/function/BiFunction;" sf) (hsf : sf.isRef = true) :
    Pays l Z (⟨"java/lang/String", "checkIndex", "(II)V"⟩ : MethodName) jdk_42_method_155_code 2 none [] ({ frames := 1, cells := 0, slots := 0, locals := 14 } : Room) #[(.int (1 : Int32)), (.int (2 : Int32))] h0 (fun v h L => v = none ∧ Fr n0 L ∧ h = h0) := by
  refine Pays.walk (plainFor_of_name pn_1) (fun m => ef_2 m (1 : Int32) (2 : Int32) ) ?_
  intro p e s m below meth c T0 X0 hx hby hml hown hnm hZ e0 hret hlk
  have N0 := Fr.nil n0
  refine Goes.on (T' := T0) (g' := (mkF m 2 #[.val (.int (1 : Int32)), .val (.int (2 : Int32))] [(.int (2 : Int32)), (.int (1 : Int32))])) (fun _ k => XS.iloadN X0.here hx rfl (hb hby d27_0) rfl (XS.iloadN X0.here hx rfl (hb hby d27_1) rfl k)) ?_
  obtain ⟨T1, X1, e1, st1⟩ := getS (host := "") X0 hx hZ hown (own_w hw 131 rfl) Via.refl e0 (Sta.ext O0.2 SF) (g := (mkF m 2 #[.val (.int (1 : Int32)), .val (.int (2 : Int32))] [(.int (2 : Int32)), (.int (1 : Int32))])) rfl (hb hby d27_2)
  refine Goes.on (T' := T1) (g' := (mkF m 5 #[.val (.int (1 : Int32)), .val (.int (2 : Int32))] [sf, (.int (2 : Int32)), (.int (1 : Int32))])) (fun _ k => st1 _ k) ?_
  refine Goes.callS X1 hx hZ 0 hown (own_w hw 133 rfl) (own_w hw 134 rfl) (own_w hw 132 rfl) (own_w hw 135 rfl) (by decide) e1 (rmPc2_1 l Z a0 hw sf h0 n0 Z0 hsf) (by decide) (by decide) (by decide) (by decide) rfl (by rw [hml]; rfl) (argsL := [(.int (1 : Int32)), (.int (2 : Int32)), sf]) (rest := []) rfl (lenOf pd_9 rfl) rfl (by show 2 * 0 + _ ≤ _; exact Nat.le_of_eq rfl) (hb hby d27_5) ?_
  intro v2 T2 L2 X2 hQ2
  obtain ⟨rfl, N2q, e2⟩ := hQ2
  have N2 := Fr.app N0 N2q
  show Goes p e below _ T2 (mkF m 8 #[.val (.int (1 : Int32)), .val (.int (2 : Int32))] [(.int (1 : Int32))])
  refine Goes.on (T' := T2) (g' := (mkF m 9 #[.val (.int (1 : Int32)), .val (.int (2 : Int32))] [])) (fun _ k => XS.pop X2.here hx rfl (hb hby d27_8) rfl rfl k) ?_
  exact Goes.retV X2 hx hlk hret (hb hby d27_9) (by decide) (by decide) ⟨rfl, N2, e2⟩
set_option maxRecDepth 65536 in
set_option maxHeartbeats 40000000 in
theorem rmLc2_1 (l : Launch) (Z : State) (a0 : Array Value) (hw : ∀ d ∈ tables_1, d.before a0 Z = true) (ya : Addr) (u0 u1 : Int32) (h0 : Heap) (n0 : Nat) (Z0 : n0 ≤ h0.size) (O0 : Old Z n0 h0) (BA : Arf Z h0 ya .byte Value.int 2 (fun i => ([u0, u1] : List Int32).getD i 0)) (sf : Value) (SF : Sta Z Z.heap "jdk/internal/util/Preconditions" "SIOOBE_FORMATTER" "Ljava/util/function/BiFunction;" sf) (hsf : sf.isRef = true) :
    Pays l Z (⟨"java/lang/StringLatin1", "charAt", "([BI)C"⟩ : MethodName) jdk_43_method_2_code 2 (some .char) [] ({ frames := 2, cells := 0, slots := 0, locals := 27 } : Room) #[(.ref ya), (.int (1 : Int32))] h0 (fun v h L => v = some (.int ((u1 &&& (255 : Int32)).toUInt32.toUInt16.toUInt32.toInt32)) ∧ Fr n0 L ∧ h = h0) := by
  refine Pays.walk (plainFor_of_name pn_2) (fun m => ef_6 m ya (1 : Int32) ) ?_
  intro p e s m below meth c T0 X0 hx hby hml hown hnm hZ e0 hret hlk
  have N0 := Fr.nil n0
  refine Goes.on (T' := T0) (g' := (mkF m 3 #[.val (.ref ya), .val (.int (1 : Int32))] [(.int (2 : Int32)), (.int (1 : Int32))])) (fun _ k => XS.iloadN X0.here hx rfl (hb hby d26_0) rfl (XS.aloadN X0.here hx rfl (hb hby d26_1) rfl rfl (aLenm X0 hx hZ e0 BA (hb hby d26_2) k))) ?_
  refine Goes.callS X0 hx hZ 0 hown (own_w hw 128 rfl) (own_w hw 129 rfl) (own_w hw 9 rfl) (own_w hw 130 rfl) (by decide) e0 (rmSc2_1 l Z a0 hw h0 n0 Z0 O0 sf SF hsf) (by decide) (by decide) (by decide) (by decide) rfl (by rw [hml]; rfl) (argsL := [(.int (1 : Int32)), (.int (2 : Int32))]) (rest := []) rfl (lenOf pd_10 rfl) rfl (by show 2 * 0 + _ ≤ _; exact Nat.le_of_eq rfl) (hb hby d26_3) ?_
  intro v2 T2 L2 X2 hQ2
  obtain ⟨rfl, N2q, e2⟩ := hQ2
  have N2 := Fr.app N0 N2q
  show Goes p e below _ T2 (mkF m 6 #[.val (.ref ya), .val (.int (1 : Int32))] [])
  refine Goes.on (T' := T2) (g' := (mkF m 14 #[.val (.ref ya), .val (.int (1 : Int32))] [(.int ((u1 &&& (255 : Int32)).toUInt32.toUInt16.toUInt32.toInt32))])) (fun _ k => XS.aloadN X2.here hx rfl (hb hby d26_6) rfl rfl (XS.iloadN X2.here hx rfl (hb hby d26_7) rfl (ldYm X2 hx hZ e2 BA (by decide) (hb hby d26_8) (XS.sipush X2.here hx rfl (hb hby d26_9) (XS.iand X2.here hx rfl (hb hby d26_12) rfl (XS.i2c X2.here hx rfl (hb hby d26_13) rfl k)))))) ?_
  exact Goes.retC X2 hx hlk hret (narC _) (hb hby d26_14) (by decide) (by decide) ⟨rfl, N2, e2⟩
set_option maxRecDepth 65536 in
set_option maxHeartbeats 40000000 in
theorem rmCh2_1 (l : Launch) (Z : State) (a0 : Array Value) (hw : ∀ d ∈ tables_1, d.before a0 Z = true) (a : Addr) (c0 c1 : Int32) (h0 : Heap) (n0 : Nat) (Z0 : n0 ≤ h0.size) (O0 : Old Z n0 h0) (cs : Int32) (SC : Sta Z Z.heap "java/lang/String" "COMPACT_STRINGS" "Z" (.int cs)) (hcs : ¬ cs = (0 : Int32)) (ya : Addr) (ka : ClassId) (PA : Str Z h0 a ya ka (Int32.ofNat 2) [Value.int (c0.toInt8.toInt32), Value.int (c1.toInt8.toInt32)]) (sf : Value) (SF : Sta Z Z.heap "jdk/internal/util/Preconditions" "SIOOBE_FORMATTER" "Ljava/util/function/BiFunction;" sf) (hsf : sf.isRef = true) (hC : own_CH c1) :
    Pays l Z (⟨"java/lang/String", "charAt", "(I)C"⟩ : MethodName) jdk_42_method_56_code 2 (some .char) [] ({ frames := 3, cells := 0, slots := 0, locals := 40 } : Room) #[(.ref a), (.int (1 : Int32))] h0 (fun v h L => v = some (.int c1) ∧ Fr n0 L ∧ h = h0) := by
  refine Pays.walk (plainFor_of_name pn_1) (fun m => ef_6 m a (1 : Int32) ) ?_
  intro p e s m below meth c T0 X0 hx hby hml hown hnm hZ e0 hret hlk
  have N0 := Fr.nil n0
  have BA : Arf Z h0 ya .byte Value.int 2 (fun i => ([(c0.toInt8.toInt32), (c1.toInt8.toInt32)] : List Int32).getD i 0) := Arv.arf PA.2.2.2 (by decide) (own_lt2 rfl rfl)
  refine Goes.on (T' := T0) (g' := (mkF m 1 #[.val (.ref a), .val (.int (1 : Int32))] [(.ref a)])) (fun _ k => XS.aloadN X0.here hx rfl (hb hby d25_0) rfl rfl k) ?_
  refine Goes.callV X0 hx hZ 0 hown (own_w hw 73 rfl) (own_w hw 74 rfl) (notFace_of_selects (args := #[]) (mvT hZ (own_w hw 76 rfl))) (own_w hw 76 rfl) (own_w hw 75 rfl) (own_w hw 9 rfl) (own_w hw 77 rfl) (by decide) e0 PA.1 (rmIl_2 l Z a0 hw a (c0.toInt8.toInt32) (c1.toInt8.toInt32) h0 n0 Z0 O0 cs SC hcs ya ka PA) (by decide) (by decide) (by decide) (by decide) rfl (by rw [hml]; rfl) (argsL := []) (rest := []) rfl (lenOf pd_4 rfl) rfl (by show 2 * 0 + _ ≤ _; exact Nat.le_of_eq rfl) (hb hby d25_1) ?_
  intro v1 T1 L1 X1 hQ1
  obtain ⟨rfl, N1q, e1⟩ := hQ1
  have N1 := Fr.app N0 N1q
  show Goes p e below _ T1 (mkF m 4 #[.val (.ref a), .val (.int (1 : Int32))] [(.int (1 : Int32))])
  refine Goes.on (T' := T1) (g' := (mkF m 8 #[.val (.ref a), .val (.int (1 : Int32))] [(.ref a)])) (fun _ k => XS.ifNo X1.here hx rfl (hb hby d25_4) rfl (XT.i0_eq_f (by decide)) (XS.aloadN X1.here hx rfl (hb hby d25_7) rfl rfl k)) ?_
  obtain ⟨T2, X2, e2, st2⟩ := getF X1 hx hZ hown (host := "") (Or.inl (own_w hw 35 rfl)) Via.refl e1 PA.2.2.1 (g := (mkF m 8 #[.val (.ref a), .val (.int (1 : Int32))] [(.ref a)])) rfl rfl (hb hby d25_8)
  refine Goes.on (T' := T2) (g' := (mkF m 12 #[.val (.ref a), .val (.int (1 : Int32))] [(.int (1 : Int32)), (.ref ya)])) (fun _ k => st2 _ (XS.iloadN X2.here hx rfl (hb hby d25_11) rfl k)) ?_
  refine Goes.callS X2 hx hZ 0 hown (own_w hw 125 rfl) (own_w hw 126 rfl) (own_w hw 60 rfl) (own_w hw 127 rfl) (by decide) e2 (rmLc2_1 l Z a0 hw ya (c0.toInt8.toInt32) (c1.toInt8.toInt32) h0 n0 Z0 O0 BA sf SF hsf) (by decide) (by decide) (by decide) (by decide) rfl (by rw [hml]; rfl) (argsL := [(.ref ya), (.int (1 : Int32))]) (rest := []) rfl (lenOf pd_11 rfl) rfl (by show 2 * 0 + _ ≤ _; exact Nat.le_of_eq rfl) (hb hby d25_12) ?_
  intro v3 T3 L3 X3 hQ3
  obtain ⟨rfl, N3q, e3⟩ := hQ3
  have N3 := Fr.app N1 N3q
  show Goes p e below _ T3 (mkF m 15 #[.val (.ref a), .val (.int (1 : Int32))] [(.int (((c1.toInt8.toInt32) &&& (255 : Int32)).toUInt32.toUInt16.toUInt32.toInt32))])
  exact Goes.retC X3 hx hlk hret (narC _) (hb hby d25_15) (by decide) (by decide) ⟨congrArg (fun q => some (Value.int q)) (own_up hC), N3, e3⟩
theorem d24_0 : decode method_4_code 0 = .ok (.aload_n 0, 1) := by decide +kernel
theorem d24_1 : decode method_4_code 1 = .ok (.invokevirtual 18, 3) := by decide +kernel
theorem d24_4 : decode method_4_code 4 = .ok (.aload_n 1, 1) := by decide +kernel
theorem d24_5 : decode method_4_code 5 = .ok (.invokevirtual 18, 3) := by decide +kernel
theorem d24_8 : decode method_4_code 8 = .ok (.if_icmp .eq 5, 3) := by decide +kernel
theorem d24_13 : decode method_4_code 13 = .ok (.aload_n 0, 1) := by decide +kernel
theorem d24_14 : decode method_4_code 14 = .ok (.iconst 0, 1) := by decide +kernel
theorem pd_12 : parseMethodDescriptor "(I)C" = some ⟨[.int], some .char⟩ := by decide +kernel
theorem d24_15 : decode method_4_code 15 = .ok (.invokevirtual 22, 3) := by decide +kernel
theorem d24_18 : decode method_4_code 18 = .ok (.aload_n 1, 1) := by decide +kernel
theorem d24_19 : decode method_4_code 19 = .ok (.iconst 0, 1) := by decide +kernel
theorem d24_20 : decode method_4_code 20 = .ok (.invokevirtual 22, 3) := by decide +kernel
theorem d24_23 : decode method_4_code 23 = .ok (.if_icmp .eq 5, 3) := by decide +kernel
theorem d24_28 : decode method_4_code 28 = .ok (.aload_n 0, 1) := by decide +kernel
theorem d24_29 : decode method_4_code 29 = .ok (.invokevirtual 18, 3) := by decide +kernel
theorem d24_32 : decode method_4_code 32 = .ok (.iconst 1, 1) := by decide +kernel
theorem d24_33 : decode method_4_code 33 = .ok (.if_icmp .eq 16, 3) := by decide +kernel
theorem d24_49 : decode method_4_code 49 = .ok (.iconst 1, 1) := by decide +kernel
theorem d24_50 : decode method_4_code 50 = .ok (.goto 4, 3) := by decide +kernel
theorem d24_54 : decode method_4_code 54 = .ok (.ireturn, 1) := by decide +kernel
theorem d24_26 : decode method_4_code 26 = .ok (.iconst 0, 1) := by decide +kernel
theorem d24_27 : decode method_4_code 27 = .ok (.ireturn, 1) := by decide +kernel
set_option maxRecDepth 65536 in
set_option maxHeartbeats 40000000 in
theorem rmSs11 (l : Launch) (Z : State) (a0 : Array Value) (hw : ∀ d ∈ tables_1, d.before a0 Z = true) (a b : Addr) (c0 d0 : Int32) (h0 : Heap) (n0 : Nat) (Z0 : n0 ≤ h0.size) (O0 : Old Z n0 h0) (cs : Int32) (SC : Sta Z Z.heap "java/lang/String" "COMPACT_STRINGS" "Z" (.int cs)) (hcs : ¬ cs = (0 : Int32)) (sf : Value) (SF : Sta Z Z.heap "jdk/internal/util/Preconditions" "SIOOBE_FORMATTER" "Ljava/util/function/BiFunction;" sf) (hsf : sf.isRef = true) (ya yb : Addr) (ka kb : ClassId) (PA : Str Z h0 a ya ka (Int32.ofNat 1) [Value.int (c0.toInt8.toInt32)]) (PB : Str Z h0 b yb kb (Int32.ofNat 1) [Value.int (d0.toInt8.toInt32)]) (hc0 : own_CH c0) (hd0 : own_CH d0) (z : Int32) (hz : z = 0 ∨ z = 1) (hP : z = 1 ↔ c0 = d0) :
    Pays l Z (⟨"com/example/narada/narada/ObjectAddressEqualsPinLaw", "sameStr", "(Ljava/lang/String;Ljava/lang/String;)Z"⟩ : MethodName) method_4_code 2 (some .boolean) [] ({ frames := 4, cells := 0, slots := 0, locals := 54 } : Room) #[(.ref a), (.ref b)] h0 (fun v h L => v = some (.int z) ∧ Fr n0 L ∧ h = h0) := by
  refine Pays.walk (plainFor_of_name pn_0) (fun m => ef_9 m a b ) ?_
  intro p e s m below meth c T0 X0 hx hby hml hown hnm hZ e0 hret hlk
  have N0 := Fr.nil n0
  refine Goes.on (T' := T0) (g' := (mkF m 1 #[.val (.ref a), .val (.ref b)] [(.ref a)])) (fun _ k => XS.aloadN X0.here hx rfl (hb hby d24_0) rfl rfl k) ?_
  refine Goes.callV X0 hx hZ 0 hown (own_w hw 119 rfl) (own_w hw 79 rfl) (notFace_of_selects (args := #[]) (mvT hZ (own_w hw 81 rfl))) (own_w hw 81 rfl) (own_w hw 80 rfl) (own_w hw 9 rfl) (own_w hw 82 rfl) (by decide) e0 PA.1 (rmLn_1 l Z a0 hw a (c0.toInt8.toInt32) h0 n0 Z0 O0 cs SC hcs ya ka PA) (by decide) (by decide) (by decide) (by decide) rfl (by rw [hml]; rfl) (argsL := []) (rest := []) rfl (lenOf pd_5 rfl) rfl (by show 2 * 0 + _ ≤ _; exact Nat.le_of_eq rfl) (hb hby d24_1) ?_
  intro v1 T1 L1 X1 hQ1
  obtain ⟨rfl, N1q, e1⟩ := hQ1
  have N1 := Fr.app N0 N1q
  show Goes p e below _ T1 (mkF m 4 #[.val (.ref a), .val (.ref b)] [(.int (1 : Int32))])
  refine Goes.on (T' := T1) (g' := (mkF m 5 #[.val (.ref a), .val (.ref b)] [(.ref b), (.int (1 : Int32))])) (fun _ k => XS.aloadN X1.here hx rfl (hb hby d24_4) rfl rfl k) ?_
  refine Goes.callV X1 hx hZ 1 hown (own_w hw 119 rfl) (own_w hw 79 rfl) (notFace_of_selects (args := #[]) (mvT hZ (own_w hw 81 rfl))) (own_w hw 81 rfl) (own_w hw 80 rfl) (own_w hw 9 rfl) (own_w hw 82 rfl) (by decide) e1 PB.1 (rmLn_1 l Z a0 hw b (d0.toInt8.toInt32) h0 n0 Z0 O0 cs SC hcs yb kb PB) (by decide) (by decide) (by decide) (by decide) rfl (by rw [hml]; rfl) (argsL := []) (rest := [(.int (1 : Int32))]) rfl (lenOf pd_5 rfl) rfl (by show 2 * 0 + _ ≤ _; exact Nat.le_of_eq rfl) (hb hby d24_5) ?_
  intro v2 T2 L2 X2 hQ2
  obtain ⟨rfl, N2q, e2⟩ := hQ2
  have N2 := Fr.app N1 N2q
  show Goes p e below _ T2 (mkF m 8 #[.val (.ref a), .val (.ref b)] [(.int (1 : Int32)), (.int (1 : Int32))])
  refine Goes.on (T' := T2) (g' := (mkF m 15 #[.val (.ref a), .val (.ref b)] [(.int (0 : Int32)), (.ref a)])) (fun _ k => XS.icmpYes X2.here hx rfl (pc0 := 8) (pc' := 13) rfl (hb hby d24_8) rfl (XT.ii_eq_t (by decide)) (by decide) (by decide) (XS.aloadN X2.here hx rfl (hb hby d24_13) rfl rfl (XS.iconst X2.here hx rfl (hb hby d24_14) k))) ?_
  refine Goes.callV X2 hx hZ 0 hown (own_w hw 120 rfl) (own_w hw 121 rfl) (notFace_of_selects (args := #[]) (mvT hZ (own_w hw 123 rfl))) (own_w hw 123 rfl) (own_w hw 122 rfl) (own_w hw 9 rfl) (own_w hw 124 rfl) (by decide) e2 PA.1 (rmCh1_0 l Z a0 hw a c0 h0 n0 Z0 O0 cs SC hcs ya ka PA sf SF hsf hc0) (by decide) (by decide) (by decide) (by decide) rfl (by rw [hml]; rfl) (argsL := [(.int (0 : Int32))]) (rest := []) rfl (lenOf pd_12 rfl) rfl (by show 2 * 0 + _ ≤ _; exact Nat.le_of_eq rfl) (hb hby d24_15) ?_
  intro v3 T3 L3 X3 hQ3
  obtain ⟨rfl, N3q, e3⟩ := hQ3
  have N3 := Fr.app N2 N3q
  show Goes p e below _ T3 (mkF m 18 #[.val (.ref a), .val (.ref b)] [(.int c0)])
  refine Goes.on (T' := T3) (g' := (mkF m 20 #[.val (.ref a), .val (.ref b)] [(.int (0 : Int32)), (.ref b), (.int c0)])) (fun _ k => XS.aloadN X3.here hx rfl (hb hby d24_18) rfl rfl (XS.iconst X3.here hx rfl (hb hby d24_19) k)) ?_
  refine Goes.callV X3 hx hZ 1 hown (own_w hw 120 rfl) (own_w hw 121 rfl) (notFace_of_selects (args := #[]) (mvT hZ (own_w hw 123 rfl))) (own_w hw 123 rfl) (own_w hw 122 rfl) (own_w hw 9 rfl) (own_w hw 124 rfl) (by decide) e3 PB.1 (rmCh1_0 l Z a0 hw b d0 h0 n0 Z0 O0 cs SC hcs yb kb PB sf SF hsf hd0) (by decide) (by decide) (by decide) (by decide) rfl (by rw [hml]; rfl) (argsL := [(.int (0 : Int32))]) (rest := [(.int c0)]) rfl (lenOf pd_12 rfl) rfl (by show 2 * 0 + _ ≤ _; exact Nat.le_of_eq rfl) (hb hby d24_20) ?_
  intro v4 T4 L4 X4 hQ4
  obtain ⟨rfl, N4q, e4⟩ := hQ4
  have N4 := Fr.app N3 N4q
  show Goes p e below _ T4 (mkF m 23 #[.val (.ref a), .val (.ref b)] [(.int d0), (.int c0)])
  by_cases hc5 : c0 = d0
  · refine Goes.on (T' := T4) (g' := (mkF m 29 #[.val (.ref a), .val (.ref b)] [(.ref a)])) (fun _ k => XS.icmpYes X4.here hx rfl (pc0 := 23) (pc' := 28) rfl (hb hby d24_23) rfl (XT.ii_eq_t hc5) (by decide) (by decide) (XS.aloadN X4.here hx rfl (hb hby d24_28) rfl rfl k)) ?_
    refine Goes.callV X4 hx hZ 0 hown (own_w hw 119 rfl) (own_w hw 79 rfl) (notFace_of_selects (args := #[]) (mvT hZ (own_w hw 81 rfl))) (own_w hw 81 rfl) (own_w hw 80 rfl) (own_w hw 9 rfl) (own_w hw 82 rfl) (by decide) e4 PA.1 (rmLn_1 l Z a0 hw a (c0.toInt8.toInt32) h0 n0 Z0 O0 cs SC hcs ya ka PA) (by decide) (by decide) (by decide) (by decide) rfl (by rw [hml]; rfl) (argsL := []) (rest := []) rfl (lenOf pd_5 rfl) rfl (by show 2 * 0 + _ ≤ _; exact Nat.le_of_eq rfl) (hb hby d24_29) ?_
    intro v6 T6 L6 X6 hQ6
    obtain ⟨rfl, N6q, e6⟩ := hQ6
    have N6 := Fr.app N4 N6q
    show Goes p e below _ T6 (mkF m 32 #[.val (.ref a), .val (.ref b)] [(.int (1 : Int32))])
    refine Goes.on (T' := T6) (g' := (mkF m 54 #[.val (.ref a), .val (.ref b)] [(.int (1 : Int32))])) (fun _ k => XS.iconst X6.here hx rfl (hb hby d24_32) (XS.icmpYes X6.here hx rfl (pc0 := 33) (pc' := 49) rfl (hb hby d24_33) rfl (XT.ii_eq_t (by decide)) (by decide) (by decide) (XS.iconst X6.here hx rfl (hb hby d24_49) (XS.goto X6.here hx rfl (pc0 := 50) (pc' := 54) rfl (hb hby d24_50) (by decide) (by decide) k)))) ?_
    exact Goes.retB X6 hx hlk hret (Or.inr rfl) (hb hby d24_54) (by decide) (by decide) ⟨own_is1 hP hc5, N6, e6⟩
  · refine Goes.on (T' := T4) (g' := (mkF m 27 #[.val (.ref a), .val (.ref b)] [(.int (0 : Int32))])) (fun _ k => XS.icmpNo X4.here hx rfl (hb hby d24_23) rfl (XT.ii_eq_f hc5) (XS.iconst X4.here hx rfl (hb hby d24_26) k)) ?_
    exact Goes.retB X4 hx hlk hret (Or.inl rfl) (hb hby d24_27) (by decide) (by decide) ⟨own_is0 hz hP (fun q => hc5 q), N4, e4⟩
theorem d24_11 : decode method_4_code 11 = .ok (.iconst 0, 1) := by decide +kernel
theorem d24_12 : decode method_4_code 12 = .ok (.ireturn, 1) := by decide +kernel
set_option maxRecDepth 65536 in
set_option maxHeartbeats 40000000 in
theorem rmSs12 (l : Launch) (Z : State) (a0 : Array Value) (hw : ∀ d ∈ tables_1, d.before a0 Z = true) (a b : Addr) (c0 d0 d1 : Int32) (h0 : Heap) (n0 : Nat) (Z0 : n0 ≤ h0.size) (O0 : Old Z n0 h0) (cs : Int32) (SC : Sta Z Z.heap "java/lang/String" "COMPACT_STRINGS" "Z" (.int cs)) (hcs : ¬ cs = (0 : Int32)) (sf : Value) (SF : Sta Z Z.heap "jdk/internal/util/Preconditions" "SIOOBE_FORMATTER" "Ljava/util/function/BiFunction;" sf) (hsf : sf.isRef = true) (ya yb : Addr) (ka kb : ClassId) (PA : Str Z h0 a ya ka (Int32.ofNat 1) [Value.int (c0.toInt8.toInt32)]) (PB : Str Z h0 b yb kb (Int32.ofNat 2) [Value.int (d0.toInt8.toInt32), Value.int (d1.toInt8.toInt32)]) (hc0 : own_CH c0) (hd0 : own_CH d0) (hd1 : own_CH d1) (z : Int32) (hz : z = 0 ∨ z = 1) (hP : z = 1 ↔ False) :
    Pays l Z (⟨"com/example/narada/narada/ObjectAddressEqualsPinLaw", "sameStr", "(Ljava/lang/String;Ljava/lang/String;)Z"⟩ : MethodName) method_4_code 2 (some .boolean) [] ({ frames := 4, cells := 0, slots := 0, locals := 54 } : Room) #[(.ref a), (.ref b)] h0 (fun v h L => v = some (.int z) ∧ Fr n0 L ∧ h = h0) := by
  refine Pays.walk (plainFor_of_name pn_0) (fun m => ef_9 m a b ) ?_
  intro p e s m below meth c T0 X0 hx hby hml hown hnm hZ e0 hret hlk
  have N0 := Fr.nil n0
  refine Goes.on (T' := T0) (g' := (mkF m 1 #[.val (.ref a), .val (.ref b)] [(.ref a)])) (fun _ k => XS.aloadN X0.here hx rfl (hb hby d24_0) rfl rfl k) ?_
  refine Goes.callV X0 hx hZ 0 hown (own_w hw 119 rfl) (own_w hw 79 rfl) (notFace_of_selects (args := #[]) (mvT hZ (own_w hw 81 rfl))) (own_w hw 81 rfl) (own_w hw 80 rfl) (own_w hw 9 rfl) (own_w hw 82 rfl) (by decide) e0 PA.1 (rmLn_1 l Z a0 hw a (c0.toInt8.toInt32) h0 n0 Z0 O0 cs SC hcs ya ka PA) (by decide) (by decide) (by decide) (by decide) rfl (by rw [hml]; rfl) (argsL := []) (rest := []) rfl (lenOf pd_5 rfl) rfl (by show 2 * 0 + _ ≤ _; exact Nat.le_of_eq rfl) (hb hby d24_1) ?_
  intro v1 T1 L1 X1 hQ1
  obtain ⟨rfl, N1q, e1⟩ := hQ1
  have N1 := Fr.app N0 N1q
  show Goes p e below _ T1 (mkF m 4 #[.val (.ref a), .val (.ref b)] [(.int (1 : Int32))])
  refine Goes.on (T' := T1) (g' := (mkF m 5 #[.val (.ref a), .val (.ref b)] [(.ref b), (.int (1 : Int32))])) (fun _ k => XS.aloadN X1.here hx rfl (hb hby d24_4) rfl rfl k) ?_
  refine Goes.callV X1 hx hZ 1 hown (own_w hw 119 rfl) (own_w hw 79 rfl) (notFace_of_selects (args := #[]) (mvT hZ (own_w hw 81 rfl))) (own_w hw 81 rfl) (own_w hw 80 rfl) (own_w hw 9 rfl) (own_w hw 82 rfl) (by decide) e1 PB.1 (rmLn_2 l Z a0 hw b (d0.toInt8.toInt32) (d1.toInt8.toInt32) h0 n0 Z0 O0 cs SC hcs yb kb PB) (by decide) (by decide) (by decide) (by decide) rfl (by rw [hml]; rfl) (argsL := []) (rest := [(.int (1 : Int32))]) rfl (lenOf pd_5 rfl) rfl (by show 2 * 0 + _ ≤ _; exact Nat.le_of_eq rfl) (hb hby d24_5) ?_
  intro v2 T2 L2 X2 hQ2
  obtain ⟨rfl, N2q, e2⟩ := hQ2
  have N2 := Fr.app N1 N2q
  show Goes p e below _ T2 (mkF m 8 #[.val (.ref a), .val (.ref b)] [(.int (2 : Int32)), (.int (1 : Int32))])
  refine Goes.on (T' := T2) (g' := (mkF m 12 #[.val (.ref a), .val (.ref b)] [(.int (0 : Int32))])) (fun _ k => XS.icmpNo X2.here hx rfl (hb hby d24_8) rfl (XT.ii_eq_f (by decide)) (XS.iconst X2.here hx rfl (hb hby d24_11) k)) ?_
  exact Goes.retB X2 hx hlk hret (Or.inl rfl) (hb hby d24_12) (by decide) (by decide) ⟨own_is0 hz hP (fun q => q), N2, e2⟩
set_option maxRecDepth 65536 in
set_option maxHeartbeats 40000000 in
theorem rmSs21 (l : Launch) (Z : State) (a0 : Array Value) (hw : ∀ d ∈ tables_1, d.before a0 Z = true) (a b : Addr) (c0 c1 d0 : Int32) (h0 : Heap) (n0 : Nat) (Z0 : n0 ≤ h0.size) (O0 : Old Z n0 h0) (cs : Int32) (SC : Sta Z Z.heap "java/lang/String" "COMPACT_STRINGS" "Z" (.int cs)) (hcs : ¬ cs = (0 : Int32)) (sf : Value) (SF : Sta Z Z.heap "jdk/internal/util/Preconditions" "SIOOBE_FORMATTER" "Ljava/util/function/BiFunction;" sf) (hsf : sf.isRef = true) (ya yb : Addr) (ka kb : ClassId) (PA : Str Z h0 a ya ka (Int32.ofNat 2) [Value.int (c0.toInt8.toInt32), Value.int (c1.toInt8.toInt32)]) (PB : Str Z h0 b yb kb (Int32.ofNat 1) [Value.int (d0.toInt8.toInt32)]) (hc0 : own_CH c0) (hc1 : own_CH c1) (hd0 : own_CH d0) (z : Int32) (hz : z = 0 ∨ z = 1) (hP : z = 1 ↔ False) :
    Pays l Z (⟨"com/example/narada/narada/ObjectAddressEqualsPinLaw", "sameStr", "(Ljava/lang/String;Ljava/lang/String;)Z"⟩ : MethodName) method_4_code 2 (some .boolean) [] ({ frames := 4, cells := 0, slots := 0, locals := 54 } : Room) #[(.ref a), (.ref b)] h0 (fun v h L => v = some (.int z) ∧ Fr n0 L ∧ h = h0) := by
  refine Pays.walk (plainFor_of_name pn_0) (fun m => ef_9 m a b ) ?_
  intro p e s m below meth c T0 X0 hx hby hml hown hnm hZ e0 hret hlk
  have N0 := Fr.nil n0
  refine Goes.on (T' := T0) (g' := (mkF m 1 #[.val (.ref a), .val (.ref b)] [(.ref a)])) (fun _ k => XS.aloadN X0.here hx rfl (hb hby d24_0) rfl rfl k) ?_
  refine Goes.callV X0 hx hZ 0 hown (own_w hw 119 rfl) (own_w hw 79 rfl) (notFace_of_selects (args := #[]) (mvT hZ (own_w hw 81 rfl))) (own_w hw 81 rfl) (own_w hw 80 rfl) (own_w hw 9 rfl) (own_w hw 82 rfl) (by decide) e0 PA.1 (rmLn_2 l Z a0 hw a (c0.toInt8.toInt32) (c1.toInt8.toInt32) h0 n0 Z0 O0 cs SC hcs ya ka PA) (by decide) (by decide) (by decide) (by decide) rfl (by rw [hml]; rfl) (argsL := []) (rest := []) rfl (lenOf pd_5 rfl) rfl (by show 2 * 0 + _ ≤ _; exact Nat.le_of_eq rfl) (hb hby d24_1) ?_
  intro v1 T1 L1 X1 hQ1
  obtain ⟨rfl, N1q, e1⟩ := hQ1
  have N1 := Fr.app N0 N1q
  show Goes p e below _ T1 (mkF m 4 #[.val (.ref a), .val (.ref b)] [(.int (2 : Int32))])
  refine Goes.on (T' := T1) (g' := (mkF m 5 #[.val (.ref a), .val (.ref b)] [(.ref b), (.int (2 : Int32))])) (fun _ k => XS.aloadN X1.here hx rfl (hb hby d24_4) rfl rfl k) ?_
  refine Goes.callV X1 hx hZ 1 hown (own_w hw 119 rfl) (own_w hw 79 rfl) (notFace_of_selects (args := #[]) (mvT hZ (own_w hw 81 rfl))) (own_w hw 81 rfl) (own_w hw 80 rfl) (own_w hw 9 rfl) (own_w hw 82 rfl) (by decide) e1 PB.1 (rmLn_1 l Z a0 hw b (d0.toInt8.toInt32) h0 n0 Z0 O0 cs SC hcs yb kb PB) (by decide) (by decide) (by decide) (by decide) rfl (by rw [hml]; rfl) (argsL := []) (rest := [(.int (2 : Int32))]) rfl (lenOf pd_5 rfl) rfl (by show 2 * 0 + _ ≤ _; exact Nat.le_of_eq rfl) (hb hby d24_5) ?_
  intro v2 T2 L2 X2 hQ2
  obtain ⟨rfl, N2q, e2⟩ := hQ2
  have N2 := Fr.app N1 N2q
  show Goes p e below _ T2 (mkF m 8 #[.val (.ref a), .val (.ref b)] [(.int (1 : Int32)), (.int (2 : Int32))])
  refine Goes.on (T' := T2) (g' := (mkF m 12 #[.val (.ref a), .val (.ref b)] [(.int (0 : Int32))])) (fun _ k => XS.icmpNo X2.here hx rfl (hb hby d24_8) rfl (XT.ii_eq_f (by decide)) (XS.iconst X2.here hx rfl (hb hby d24_11) k)) ?_
  exact Goes.retB X2 hx hlk hret (Or.inl rfl) (hb hby d24_12) (by decide) (by decide) ⟨own_is0 hz hP (fun q => q), N2, e2⟩
theorem d24_36 : decode method_4_code 36 = .ok (.aload_n 0, 1) := by decide +kernel
theorem d24_37 : decode method_4_code 37 = .ok (.iconst 1, 1) := by decide +kernel
theorem d24_38 : decode method_4_code 38 = .ok (.invokevirtual 22, 3) := by decide +kernel
theorem d24_41 : decode method_4_code 41 = .ok (.aload_n 1, 1) := by decide +kernel
theorem d24_42 : decode method_4_code 42 = .ok (.iconst 1, 1) := by decide +kernel
theorem d24_43 : decode method_4_code 43 = .ok (.invokevirtual 22, 3) := by decide +kernel
theorem d24_46 : decode method_4_code 46 = .ok (.if_icmp .ne 7, 3) := by decide +kernel
theorem d24_53 : decode method_4_code 53 = .ok (.iconst 0, 1) := by decide +kernel
set_option maxRecDepth 65536 in
set_option maxHeartbeats 40000000 in
theorem rmSs22 (l : Launch) (Z : State) (a0 : Array Value) (hw : ∀ d ∈ tables_1, d.before a0 Z = true) (a b : Addr) (c0 c1 d0 d1 : Int32) (h0 : Heap) (n0 : Nat) (Z0 : n0 ≤ h0.size) (O0 : Old Z n0 h0) (cs : Int32) (SC : Sta Z Z.heap "java/lang/String" "COMPACT_STRINGS" "Z" (.int cs)) (hcs : ¬ cs = (0 : Int32)) (sf : Value) (SF : Sta Z Z.heap "jdk/internal/util/Preconditions" "SIOOBE_FORMATTER" "Ljava/util/function/BiFunction;" sf) (hsf : sf.isRef = true) (ya yb : Addr) (ka kb : ClassId) (PA : Str Z h0 a ya ka (Int32.ofNat 2) [Value.int (c0.toInt8.toInt32), Value.int (c1.toInt8.toInt32)]) (PB : Str Z h0 b yb kb (Int32.ofNat 2) [Value.int (d0.toInt8.toInt32), Value.int (d1.toInt8.toInt32)]) (hc0 : own_CH c0) (hc1 : own_CH c1) (hd0 : own_CH d0) (hd1 : own_CH d1) (z : Int32) (hz : z = 0 ∨ z = 1) (hP : z = 1 ↔ c0 = d0 ∧ c1 = d1) :
    Pays l Z (⟨"com/example/narada/narada/ObjectAddressEqualsPinLaw", "sameStr", "(Ljava/lang/String;Ljava/lang/String;)Z"⟩ : MethodName) method_4_code 2 (some .boolean) [] ({ frames := 4, cells := 0, slots := 0, locals := 54 } : Room) #[(.ref a), (.ref b)] h0 (fun v h L => v = some (.int z) ∧ Fr n0 L ∧ h = h0) := by
  refine Pays.walk (plainFor_of_name pn_0) (fun m => ef_9 m a b ) ?_
  intro p e s m below meth c T0 X0 hx hby hml hown hnm hZ e0 hret hlk
  have N0 := Fr.nil n0
  refine Goes.on (T' := T0) (g' := (mkF m 1 #[.val (.ref a), .val (.ref b)] [(.ref a)])) (fun _ k => XS.aloadN X0.here hx rfl (hb hby d24_0) rfl rfl k) ?_
  refine Goes.callV X0 hx hZ 0 hown (own_w hw 119 rfl) (own_w hw 79 rfl) (notFace_of_selects (args := #[]) (mvT hZ (own_w hw 81 rfl))) (own_w hw 81 rfl) (own_w hw 80 rfl) (own_w hw 9 rfl) (own_w hw 82 rfl) (by decide) e0 PA.1 (rmLn_2 l Z a0 hw a (c0.toInt8.toInt32) (c1.toInt8.toInt32) h0 n0 Z0 O0 cs SC hcs ya ka PA) (by decide) (by decide) (by decide) (by decide) rfl (by rw [hml]; rfl) (argsL := []) (rest := []) rfl (lenOf pd_5 rfl) rfl (by show 2 * 0 + _ ≤ _; exact Nat.le_of_eq rfl) (hb hby d24_1) ?_
  intro v1 T1 L1 X1 hQ1
  obtain ⟨rfl, N1q, e1⟩ := hQ1
  have N1 := Fr.app N0 N1q
  show Goes p e below _ T1 (mkF m 4 #[.val (.ref a), .val (.ref b)] [(.int (2 : Int32))])
  refine Goes.on (T' := T1) (g' := (mkF m 5 #[.val (.ref a), .val (.ref b)] [(.ref b), (.int (2 : Int32))])) (fun _ k => XS.aloadN X1.here hx rfl (hb hby d24_4) rfl rfl k) ?_
  refine Goes.callV X1 hx hZ 1 hown (own_w hw 119 rfl) (own_w hw 79 rfl) (notFace_of_selects (args := #[]) (mvT hZ (own_w hw 81 rfl))) (own_w hw 81 rfl) (own_w hw 80 rfl) (own_w hw 9 rfl) (own_w hw 82 rfl) (by decide) e1 PB.1 (rmLn_2 l Z a0 hw b (d0.toInt8.toInt32) (d1.toInt8.toInt32) h0 n0 Z0 O0 cs SC hcs yb kb PB) (by decide) (by decide) (by decide) (by decide) rfl (by rw [hml]; rfl) (argsL := []) (rest := [(.int (2 : Int32))]) rfl (lenOf pd_5 rfl) rfl (by show 2 * 0 + _ ≤ _; exact Nat.le_of_eq rfl) (hb hby d24_5) ?_
  intro v2 T2 L2 X2 hQ2
  obtain ⟨rfl, N2q, e2⟩ := hQ2
  have N2 := Fr.app N1 N2q
  show Goes p e below _ T2 (mkF m 8 #[.val (.ref a), .val (.ref b)] [(.int (2 : Int32)), (.int (2 : Int32))])
  refine Goes.on (T' := T2) (g' := (mkF m 15 #[.val (.ref a), .val (.ref b)] [(.int (0 : Int32)), (.ref a)])) (fun _ k => XS.icmpYes X2.here hx rfl (pc0 := 8) (pc' := 13) rfl (hb hby d24_8) rfl (XT.ii_eq_t (by decide)) (by decide) (by decide) (XS.aloadN X2.here hx rfl (hb hby d24_13) rfl rfl (XS.iconst X2.here hx rfl (hb hby d24_14) k))) ?_
  refine Goes.callV X2 hx hZ 0 hown (own_w hw 120 rfl) (own_w hw 121 rfl) (notFace_of_selects (args := #[]) (mvT hZ (own_w hw 123 rfl))) (own_w hw 123 rfl) (own_w hw 122 rfl) (own_w hw 9 rfl) (own_w hw 124 rfl) (by decide) e2 PA.1 (rmCh2_0 l Z a0 hw a c0 c1 h0 n0 Z0 O0 cs SC hcs ya ka PA sf SF hsf hc0) (by decide) (by decide) (by decide) (by decide) rfl (by rw [hml]; rfl) (argsL := [(.int (0 : Int32))]) (rest := []) rfl (lenOf pd_12 rfl) rfl (by show 2 * 0 + _ ≤ _; exact Nat.le_of_eq rfl) (hb hby d24_15) ?_
  intro v3 T3 L3 X3 hQ3
  obtain ⟨rfl, N3q, e3⟩ := hQ3
  have N3 := Fr.app N2 N3q
  show Goes p e below _ T3 (mkF m 18 #[.val (.ref a), .val (.ref b)] [(.int c0)])
  refine Goes.on (T' := T3) (g' := (mkF m 20 #[.val (.ref a), .val (.ref b)] [(.int (0 : Int32)), (.ref b), (.int c0)])) (fun _ k => XS.aloadN X3.here hx rfl (hb hby d24_18) rfl rfl (XS.iconst X3.here hx rfl (hb hby d24_19) k)) ?_
  refine Goes.callV X3 hx hZ 1 hown (own_w hw 120 rfl) (own_w hw 121 rfl) (notFace_of_selects (args := #[]) (mvT hZ (own_w hw 123 rfl))) (own_w hw 123 rfl) (own_w hw 122 rfl) (own_w hw 9 rfl) (own_w hw 124 rfl) (by decide) e3 PB.1 (rmCh2_0 l Z a0 hw b d0 d1 h0 n0 Z0 O0 cs SC hcs yb kb PB sf SF hsf hd0) (by decide) (by decide) (by decide) (by decide) rfl (by rw [hml]; rfl) (argsL := [(.int (0 : Int32))]) (rest := [(.int c0)]) rfl (lenOf pd_12 rfl) rfl (by show 2 * 0 + _ ≤ _; exact Nat.le_of_eq rfl) (hb hby d24_20) ?_
  intro v4 T4 L4 X4 hQ4
  obtain ⟨rfl, N4q, e4⟩ := hQ4
  have N4 := Fr.app N3 N4q
  show Goes p e below _ T4 (mkF m 23 #[.val (.ref a), .val (.ref b)] [(.int d0), (.int c0)])
  by_cases hc5 : c0 = d0
  · refine Goes.on (T' := T4) (g' := (mkF m 29 #[.val (.ref a), .val (.ref b)] [(.ref a)])) (fun _ k => XS.icmpYes X4.here hx rfl (pc0 := 23) (pc' := 28) rfl (hb hby d24_23) rfl (XT.ii_eq_t hc5) (by decide) (by decide) (XS.aloadN X4.here hx rfl (hb hby d24_28) rfl rfl k)) ?_
    refine Goes.callV X4 hx hZ 0 hown (own_w hw 119 rfl) (own_w hw 79 rfl) (notFace_of_selects (args := #[]) (mvT hZ (own_w hw 81 rfl))) (own_w hw 81 rfl) (own_w hw 80 rfl) (own_w hw 9 rfl) (own_w hw 82 rfl) (by decide) e4 PA.1 (rmLn_2 l Z a0 hw a (c0.toInt8.toInt32) (c1.toInt8.toInt32) h0 n0 Z0 O0 cs SC hcs ya ka PA) (by decide) (by decide) (by decide) (by decide) rfl (by rw [hml]; rfl) (argsL := []) (rest := []) rfl (lenOf pd_5 rfl) rfl (by show 2 * 0 + _ ≤ _; exact Nat.le_of_eq rfl) (hb hby d24_29) ?_
    intro v6 T6 L6 X6 hQ6
    obtain ⟨rfl, N6q, e6⟩ := hQ6
    have N6 := Fr.app N4 N6q
    show Goes p e below _ T6 (mkF m 32 #[.val (.ref a), .val (.ref b)] [(.int (2 : Int32))])
    refine Goes.on (T' := T6) (g' := (mkF m 38 #[.val (.ref a), .val (.ref b)] [(.int (1 : Int32)), (.ref a)])) (fun _ k => XS.iconst X6.here hx rfl (hb hby d24_32) (XS.icmpNo X6.here hx rfl (hb hby d24_33) rfl (XT.ii_eq_f (by decide)) (XS.aloadN X6.here hx rfl (hb hby d24_36) rfl rfl (XS.iconst X6.here hx rfl (hb hby d24_37) k)))) ?_
    refine Goes.callV X6 hx hZ 0 hown (own_w hw 120 rfl) (own_w hw 121 rfl) (notFace_of_selects (args := #[]) (mvT hZ (own_w hw 123 rfl))) (own_w hw 123 rfl) (own_w hw 122 rfl) (own_w hw 9 rfl) (own_w hw 124 rfl) (by decide) e6 PA.1 (rmCh2_1 l Z a0 hw a c0 c1 h0 n0 Z0 O0 cs SC hcs ya ka PA sf SF hsf hc1) (by decide) (by decide) (by decide) (by decide) rfl (by rw [hml]; rfl) (argsL := [(.int (1 : Int32))]) (rest := []) rfl (lenOf pd_12 rfl) rfl (by show 2 * 0 + _ ≤ _; exact Nat.le_of_eq rfl) (hb hby d24_38) ?_
    intro v7 T7 L7 X7 hQ7
    obtain ⟨rfl, N7q, e7⟩ := hQ7
    have N7 := Fr.app N6 N7q
    show Goes p e below _ T7 (mkF m 41 #[.val (.ref a), .val (.ref b)] [(.int c1)])
    refine Goes.on (T' := T7) (g' := (mkF m 43 #[.val (.ref a), .val (.ref b)] [(.int (1 : Int32)), (.ref b), (.int c1)])) (fun _ k => XS.aloadN X7.here hx rfl (hb hby d24_41) rfl rfl (XS.iconst X7.here hx rfl (hb hby d24_42) k)) ?_
    refine Goes.callV X7 hx hZ 1 hown (own_w hw 120 rfl) (own_w hw 121 rfl) (notFace_of_selects (args := #[]) (mvT hZ (own_w hw 123 rfl))) (own_w hw 123 rfl) (own_w hw 122 rfl) (own_w hw 9 rfl) (own_w hw 124 rfl) (by decide) e7 PB.1 (rmCh2_1 l Z a0 hw b d0 d1 h0 n0 Z0 O0 cs SC hcs yb kb PB sf SF hsf hd1) (by decide) (by decide) (by decide) (by decide) rfl (by rw [hml]; rfl) (argsL := [(.int (1 : Int32))]) (rest := [(.int c1)]) rfl (lenOf pd_12 rfl) rfl (by show 2 * 0 + _ ≤ _; exact Nat.le_of_eq rfl) (hb hby d24_43) ?_
    intro v8 T8 L8 X8 hQ8
    obtain ⟨rfl, N8q, e8⟩ := hQ8
    have N8 := Fr.app N7 N8q
    show Goes p e below _ T8 (mkF m 46 #[.val (.ref a), .val (.ref b)] [(.int d1), (.int c1)])
    by_cases hc9 : c1 = d1
    · refine Goes.on (T' := T8) (g' := (mkF m 54 #[.val (.ref a), .val (.ref b)] [(.int (1 : Int32))])) (fun _ k => XS.icmpNo X8.here hx rfl (hb hby d24_46) rfl (XT.ii_ne_f hc9) (XS.iconst X8.here hx rfl (hb hby d24_49) (XS.goto X8.here hx rfl (pc0 := 50) (pc' := 54) rfl (hb hby d24_50) (by decide) (by decide) k))) ?_
      exact Goes.retB X8 hx hlk hret (Or.inr rfl) (hb hby d24_54) (by decide) (by decide) ⟨own_is1 hP ⟨hc5, hc9⟩, N8, e8⟩
    · refine Goes.on (T' := T8) (g' := (mkF m 54 #[.val (.ref a), .val (.ref b)] [(.int (0 : Int32))])) (fun _ k => XS.icmpYes X8.here hx rfl (pc0 := 46) (pc' := 53) rfl (hb hby d24_46) rfl (XT.ii_ne_t hc9) (by decide) (by decide) (XS.iconst X8.here hx rfl (hb hby d24_53) k)) ?_
      exact Goes.retB X8 hx hlk hret (Or.inl rfl) (hb hby d24_54) (by decide) (by decide) ⟨own_is0 hz hP (fun q => hc9 q.2), N8, e8⟩
  · refine Goes.on (T' := T4) (g' := (mkF m 27 #[.val (.ref a), .val (.ref b)] [(.int (0 : Int32))])) (fun _ k => XS.icmpNo X4.here hx rfl (hb hby d24_23) rfl (XT.ii_eq_f hc5) (XS.iconst X4.here hx rfl (hb hby d24_26) k)) ?_
    exact Goes.retB X4 hx hlk hret (Or.inl rfl) (hb hby d24_27) (by decide) (by decide) ⟨own_is0 hz hP (fun q => hc5 q.1), N4, e4⟩
theorem d1_0 : decode method_3_code 0 = .ok (.iconst 1, 1) := by decide +kernel
theorem d1_1 : decode method_3_code 1 = .ok (.iload_n 0, 1) := by decide +kernel
theorem d1_2 : decode method_3_code 2 = .ok (.bipush 16, 2) := by decide +kernel
theorem d1_4 : decode method_3_code 4 = .ok (.iushr, 1) := by decide +kernel
theorem d1_5 : decode method_3_code 5 = .ok (.iconst 1, 1) := by decide +kernel
theorem d1_6 : decode method_3_code 6 = .ok (.iand, 1) := by decide +kernel
theorem d1_7 : decode method_3_code 7 = .ok (.iadd, 1) := by decide +kernel
theorem d1_8 : decode method_3_code 8 = .ok (.istore_n 1, 1) := by decide +kernel
theorem d1_9 : decode method_3_code 9 = .ok (.iload_n 0, 1) := by decide +kernel
theorem d1_10 : decode method_3_code 10 = .ok (.sipush 255, 3) := by decide +kernel
theorem d1_13 : decode method_3_code 13 = .ok (.iand, 1) := by decide +kernel
theorem d1_14 : decode method_3_code 14 = .ok (.invokestatic 7, 3) := by decide +kernel
theorem d1_17 : decode method_3_code 17 = .ok (.istore_n 2, 1) := by decide +kernel
theorem d1_18 : decode method_3_code 18 = .ok (.iload_n 0, 1) := by decide +kernel
theorem d1_19 : decode method_3_code 19 = .ok (.bipush 8, 2) := by decide +kernel
theorem d1_21 : decode method_3_code 21 = .ok (.iushr, 1) := by decide +kernel
theorem d1_22 : decode method_3_code 22 = .ok (.sipush 255, 3) := by decide +kernel
theorem d1_25 : decode method_3_code 25 = .ok (.iand, 1) := by decide +kernel
theorem d1_26 : decode method_3_code 26 = .ok (.invokestatic 7, 3) := by decide +kernel
theorem d1_29 : decode method_3_code 29 = .ok (.istore_n 3, 1) := by decide +kernel
theorem d1_30 : decode method_3_code 30 = .ok (.iload_n 2, 1) := by decide +kernel
theorem d1_31 : decode method_3_code 31 = .ok (.bipush 46, 2) := by decide +kernel
theorem d1_33 : decode method_3_code 33 = .ok (.if_icmp .ne 17, 3) := by decide +kernel
theorem d1_36 : decode method_3_code 36 = .ok (.iload_n 1, 1) := by decide +kernel
theorem d1_37 : decode method_3_code 37 = .ok (.iconst 1, 1) := by decide +kernel
theorem d1_38 : decode method_3_code 38 = .ok (.if_icmp .eq 9, 3) := by decide +kernel
theorem d1_47 : decode method_3_code 47 = .ok (.bipush 120, 2) := by decide +kernel
theorem d1_49 : decode method_3_code 49 = .ok (.istore_n 2, 1) := by decide +kernel
theorem d1_50 : decode method_3_code 50 = .ok (.iload_n 1, 1) := by decide +kernel
theorem d1_51 : decode method_3_code 51 = .ok (.iconst 1, 1) := by decide +kernel
theorem d1_52 : decode method_3_code 52 = .ok (.if_icmp .ne 18, 3) := by decide +kernel
theorem d1_55 : decode method_3_code 55 = .ok (.new 13, 3) := by decide +kernel
theorem d1_58 : decode method_3_code 58 = .ok (.dup, 1) := by decide +kernel
theorem d1_59 : decode method_3_code 59 = .ok (.iconst 1, 1) := by decide +kernel
theorem d1_60 : decode method_3_code 60 = .ok (.newarray .char, 2) := by decide +kernel
theorem d1_62 : decode method_3_code 62 = .ok (.dup, 1) := by decide +kernel
theorem d1_63 : decode method_3_code 63 = .ok (.iconst 0, 1) := by decide +kernel
theorem d1_64 : decode method_3_code 64 = .ok (.iload_n 2, 1) := by decide +kernel
theorem d1_65 : decode method_3_code 65 = .ok (.castore, 1) := by decide +kernel
theorem pd_13 : parseMethodDescriptor "([C)V" = some ⟨[(.array .char)], none⟩ := by decide +kernel
theorem d1_66 : decode method_3_code 66 = .ok (.invokespecial 15, 3) := by decide +kernel
theorem d1_69 : decode method_3_code 69 = .ok (.areturn, 1) := by decide +kernel
theorem ef_12 (m : MethodId) (x0 : Int32) : entryFrame m #[(.int x0)] 4 = mkF m 0 #[.val (.int x0), .unset, .unset, .unset] [] := by first | (simp [entryFrame, mkF, argsToLocals, Value.category]; done) | rfl
set_option maxRecDepth 65536 in
set_option maxHeartbeats 40000000 in
theorem rmMk1 (l : Launch) (Z : State) (a0 : Array Value) (hw : ∀ d ∈ tables_1, d.before a0 Z = true) (x0 : Int32) (h0 : Heap) (n0 : Nat) (Z0 : n0 ≤ h0.size) (O0 : Old Z n0 h0) (cs : Int32) (SC : Sta Z Z.heap "java/lang/String" "COMPACT_STRINGS" "Z" (.int cs)) (hcs : ¬ cs = (0 : Int32)) (hl : ((1 : Int32) + ((x0.toUInt32 >>> ((16 : Int32) &&& 31).toUInt32).toInt32 &&& (1 : Int32))) = (1 : Int32)) :
    Pays l Z (⟨"com/example/narada/narada/ObjectAddressEqualsPinLaw", "make", "(I)Ljava/lang/String;"⟩ : MethodName) method_3_code 4 (some (.object "java/lang/String")) [] ({ frames := 4, cells := 4, slots := 64, locals := 70 } : Room) #[(.int x0)] h0 (fun v h L => ∃ (r b : Addr) (k : ClassId) (c0 : Int32), v = some (.ref r) ∧ Fr n0 L ∧ Keep h0 h [] ∧ h0.size ≤ r ∧ h0.size ≤ b ∧ Str Z h r b k (Int32.ofNat 1) [Value.int (c0.toInt8.toInt32)] ∧ own_CH c0 ∧ ¬ (c0 = (46 : Int32))) := by
  refine Pays.walk (plainFor_of_name pn_0) (fun m => ef_12 m x0 ) ?_
  intro p e s m below meth c T0 X0 hx hby hml hown hnm hZ e0 hret hlk
  have N0 := Fr.nil n0
  have K0 := Keep.refl h0 ([] : List Addr)
  refine Goes.on (T' := T0) (g' := (mkF m 14 #[.val (.int x0), .val (.int ((1 : Int32) + ((x0.toUInt32 >>> ((16 : Int32) &&& 31).toUInt32).toInt32 &&& (1 : Int32)))), .unset, .unset] [(.int (x0 &&& (255 : Int32)))])) (fun _ k => XS.iconst X0.here hx rfl (hb hby d1_0) (XS.iloadN X0.here hx rfl (hb hby d1_1) rfl (XS.bipush X0.here hx rfl (hb hby d1_2) (XS.iushr X0.here hx rfl (hb hby d1_4) rfl (XS.iconst X0.here hx rfl (hb hby d1_5) (XS.iand X0.here hx rfl (hb hby d1_6) rfl (XS.iadd X0.here hx rfl (hb hby d1_7) rfl (XS.istoreN X0.here hx rfl (hb hby d1_8) rfl (l' := #[.val (.int x0), .val (.int ((1 : Int32) + ((x0.toUInt32 >>> ((16 : Int32) &&& 31).toUInt32).toInt32 &&& (1 : Int32)))), .unset, .unset]) rfl (XS.iloadN X0.here hx rfl (hb hby d1_9) rfl (XS.sipush X0.here hx rfl (hb hby d1_10) (XS.iand X0.here hx rfl (hb hby d1_13) rfl k))))))))))) ?_
  refine Goes.callS X0 hx hZ 0 hown (own_w hw 4 rfl) (own_w hw 5 rfl) (own_w hw 2 rfl) (own_w hw 6 rfl) (by decide) e0 (rmfix l Z a0 hw (x0 &&& (255 : Int32)) h0 n0 Z0) (by decide) (by decide) (by decide) (by decide) rfl (by rw [hml]; rfl) (argsL := [(.int (x0 &&& (255 : Int32)))]) (rest := []) rfl (lenOf pd_12 rfl) rfl (by show 2 * 0 + _ ≤ _; exact Nat.le_of_eq rfl) (hb hby d1_14) ?_
  intro v1 T1 L1 X1 hQ1
  obtain ⟨rfl, N1q, e1⟩ := hQ1
  have N1 := Fr.app N0 N1q
  show Goes p e below _ T1 (mkF m 17 #[.val (.int x0), .val (.int ((1 : Int32) + ((x0.toUInt32 >>> ((16 : Int32) &&& 31).toUInt32).toInt32 &&& (1 : Int32)))), .unset, .unset] [(.int (Ffix (x0 &&& (255 : Int32))))])
  have hc0 := own_fix x0
  generalize Ffix (x0 &&& (255 : Int32)) = c0 at hc0 ⊢
  refine Goes.on (T' := T1) (g' := (mkF m 26 #[.val (.int x0), .val (.int ((1 : Int32) + ((x0.toUInt32 >>> ((16 : Int32) &&& 31).toUInt32).toInt32 &&& (1 : Int32)))), .val (.int c0), .unset] [(.int ((x0.toUInt32 >>> ((8 : Int32) &&& 31).toUInt32).toInt32 &&& (255 : Int32)))])) (fun _ k => XS.istoreN X1.here hx rfl (hb hby d1_17) rfl (l' := #[.val (.int x0), .val (.int ((1 : Int32) + ((x0.toUInt32 >>> ((16 : Int32) &&& 31).toUInt32).toInt32 &&& (1 : Int32)))), .val (.int c0), .unset]) rfl (XS.iloadN X1.here hx rfl (hb hby d1_18) rfl (XS.bipush X1.here hx rfl (hb hby d1_19) (XS.iushr X1.here hx rfl (hb hby d1_21) rfl (XS.sipush X1.here hx rfl (hb hby d1_22) (XS.iand X1.here hx rfl (hb hby d1_25) rfl k)))))) ?_
  refine Goes.callS X1 hx hZ 0 hown (own_w hw 4 rfl) (own_w hw 5 rfl) (own_w hw 2 rfl) (own_w hw 6 rfl) (by decide) e1 (rmfix l Z a0 hw ((x0.toUInt32 >>> ((8 : Int32) &&& 31).toUInt32).toInt32 &&& (255 : Int32)) h0 n0 Z0) (by decide) (by decide) (by decide) (by decide) rfl (by rw [hml]; rfl) (argsL := [(.int ((x0.toUInt32 >>> ((8 : Int32) &&& 31).toUInt32).toInt32 &&& (255 : Int32)))]) (rest := []) rfl (lenOf pd_12 rfl) rfl (by show 2 * 0 + _ ≤ _; exact Nat.le_of_eq rfl) (hb hby d1_26) ?_
  intro v2 T2 L2 X2 hQ2
  obtain ⟨rfl, N2q, e2⟩ := hQ2
  have N2 := Fr.app N1 N2q
  show Goes p e below _ T2 (mkF m 29 #[.val (.int x0), .val (.int ((1 : Int32) + ((x0.toUInt32 >>> ((16 : Int32) &&& 31).toUInt32).toInt32 &&& (1 : Int32)))), .val (.int c0), .unset] [(.int (Ffix ((x0.toUInt32 >>> ((8 : Int32) &&& 31).toUInt32).toInt32 &&& (255 : Int32))))])
  have hc1 := own_fix ((x0.toUInt32 >>> ((8 : Int32) &&& 31).toUInt32).toInt32)
  generalize Ffix ((x0.toUInt32 >>> ((8 : Int32) &&& 31).toUInt32).toInt32 &&& (255 : Int32)) = c1 at hc1 ⊢
  refine Goes.on (T' := T2) (g' := (mkF m 33 #[.val (.int x0), .val (.int ((1 : Int32) + ((x0.toUInt32 >>> ((16 : Int32) &&& 31).toUInt32).toInt32 &&& (1 : Int32)))), .val (.int c0), .val (.int c1)] [(.int (46 : Int32)), (.int c0)])) (fun _ k => XS.istoreN X2.here hx rfl (hb hby d1_29) rfl (l' := #[.val (.int x0), .val (.int ((1 : Int32) + ((x0.toUInt32 >>> ((16 : Int32) &&& 31).toUInt32).toInt32 &&& (1 : Int32)))), .val (.int c0), .val (.int c1)]) rfl (XS.iloadN X2.here hx rfl (hb hby d1_30) rfl (XS.bipush X2.here hx rfl (hb hby d1_31) k))) ?_
  by_cases hc3 : c0 = (46 : Int32)
  · refine Goes.on (T' := T2) (g' := (mkF m 55 #[.val (.int x0), .val (.int ((1 : Int32) + ((x0.toUInt32 >>> ((16 : Int32) &&& 31).toUInt32).toInt32 &&& (1 : Int32)))), .val (.int (120 : Int32)), .val (.int c1)] [])) (fun _ k => XS.icmpNo X2.here hx rfl (hb hby d1_33) rfl (XT.ii_ne_f hc3) (XS.iloadN X2.here hx rfl (hb hby d1_36) rfl (XS.iconst X2.here hx rfl (hb hby d1_37) (XS.icmpYes X2.here hx rfl (pc0 := 38) (pc' := 47) rfl (hb hby d1_38) rfl (XT.ii_eq_t hl) (by decide) (by decide) (XS.bipush X2.here hx rfl (hb hby d1_47) (XS.istoreN X2.here hx rfl (hb hby d1_49) rfl (l' := #[.val (.int x0), .val (.int ((1 : Int32) + ((x0.toUInt32 >>> ((16 : Int32) &&& 31).toUInt32).toInt32 &&& (1 : Int32)))), .val (.int (120 : Int32)), .val (.int c1)]) rfl (XS.iloadN X2.here hx rfl (hb hby d1_50) rfl (XS.iconst X2.here hx rfl (hb hby d1_51) (XS.icmpNo X2.here hx rfl (hb hby d1_52) rfl (XT.ii_ne_f hl) k))))))))) ?_
    obtain ⟨T4, h4, X4, e4, E4, A4, D4, U4, st4⟩ := newO X2 hx hZ hown (own_w hw 7 rfl) (own_w hw 8 rfl) (own_w hw 9 rfl) e2 (g := (mkF m 55 #[.val (.int x0), .val (.int ((1 : Int32) + ((x0.toUInt32 >>> ((16 : Int32) &&& 31).toUInt32).toInt32 &&& (1 : Int32)))), .val (.int (120 : Int32)), .val (.int c1)] [])) rfl (hb hby d1_55) (by decide) (by decide)
    obtain ⟨a4, g4⟩ : ∃ z, z = h0.size := ⟨_, rfl⟩
    rw [← g4] at A4 D4 U4 st4
    have M4 : h0.size ≤ a4 := Nat.le_trans K0.1 (Nat.le_of_eq g4.symm)
    have C5 := O0.ext E4
    have Z6 : n0 ≤ h4.size := Nat.le_trans Z0 E4.1
    have K7 := K0.ext E4
    have F8 : Fld Z h4 a4 "java/lang/String" "coder" "B" (.int (0 : Int32)) := D4 (Or.inr (own_w hw 34 rfl)) (ty := .byte) (by decide)
    have F9 : Fld Z h4 a4 "java/lang/String" "value" "[B" .null := D4 (Or.inr (own_w hw 36 rfl)) (ty := (.array .byte)) (by decide)
    have G4 : n0 ≤ a4 := Nat.le_trans Z0 (Nat.le_of_eq g4.symm)
    refine Goes.on (T' := T4) (g' := (mkF m 60 #[.val (.int x0), .val (.int ((1 : Int32) + ((x0.toUInt32 >>> ((16 : Int32) &&& 31).toUInt32).toInt32 &&& (1 : Int32)))), .val (.int (120 : Int32)), .val (.int c1)] [(.int (1 : Int32)), (.ref a4), (.ref a4)])) (fun _ k => st4 _ (XS.dup X4.here hx rfl (hb hby d1_58) rfl rfl (XS.iconst X4.here hx rfl (hb hby d1_59) k))) ?_
    obtain ⟨T10, h10, cA10, X10, e10, E10, A10, J10, st10⟩ := newPE X4 hx hZ (own_w hw 10 rfl) e4 (g := (mkF m 60 #[.val (.int x0), .val (.int ((1 : Int32) + ((x0.toUInt32 >>> ((16 : Int32) &&& 31).toUInt32).toInt32 &&& (1 : Int32)))), .val (.int (120 : Int32)), .val (.int c1)] [(.int (1 : Int32)), (.ref a4), (.ref a4)])) rfl (hb hby d1_60) rfl (by decide) (cap := 1) (by decide) (by decide) (by decide) (by decide) (ad := "[C") (by decide)
    obtain ⟨a10, g10⟩ : ∃ z, z = h4.size := ⟨_, rfl⟩
    rw [← g10] at A10 J10 st10
    have M10 : h0.size ≤ a10 := Nat.le_trans K7.1 (Nat.le_of_eq g10.symm)
    have C11 := C5.ext E10
    have C12 := A4.ext E10
    have C14 := F8.ext E10
    have C15 := F9.ext E10
    have ne16 : a4 ≠ a10 := Nat.ne_of_lt (Nat.lt_of_lt_of_le (A4).lt (Nat.le_of_eq g10.symm))
    have Z17 : n0 ≤ h10.size := Nat.le_trans Z6 E10.1
    have K18 := K7.ext E10
    have B10 : Arf Z h10 a10 .char Value.int 1 (fun _ => (0 : Int32)) := Arf.new A10 rfl
    have G10 : n0 ≤ a10 := Nat.le_trans Z6 (Nat.le_of_eq g10.symm)
    refine Goes.on (T' := T10) (g' := (mkF m 65 #[.val (.int x0), .val (.int ((1 : Int32) + ((x0.toUInt32 >>> ((16 : Int32) &&& 31).toUInt32).toInt32 &&& (1 : Int32)))), .val (.int (120 : Int32)), .val (.int c1)] [(.int (120 : Int32)), (.int (0 : Int32)), (.ref a10), (.ref a10), (.ref a4), (.ref a4)])) (fun _ k => st10 _ (XS.dup X10.here hx rfl (hb hby d1_62) rfl rfl (XS.iconst X10.here hx rfl (hb hby d1_63) (XS.iloadN X10.here hx rfl (hb hby d1_64) rfl k)))) ?_
    obtain ⟨T19, h19, X19, e19, W19, B19, st19⟩ := wrC X10 hx hZ e10 B10 (by decide) rfl (g := (mkF m 65 #[.val (.int x0), .val (.int ((1 : Int32) + ((x0.toUInt32 >>> ((16 : Int32) &&& 31).toUInt32).toInt32 &&& (1 : Int32)))), .val (.int (120 : Int32)), .val (.int c1)] [(.int (120 : Int32)), (.int (0 : Int32)), (.ref a10), (.ref a10), (.ref a4), (.ref a4)])) rfl rfl (hb hby d1_65)
    have N19 := Fr.snoc X19 N2 G10
    have C20 := C11.wr W19 G10
    have C21 := C12.wr W19
    have C23 := C14.other W19 (Or.inl ne16)
    have C24 := C15.other W19 (Or.inl ne16)
    have Z26 : n0 ≤ h19.size := by rw [W19.size]; exact Z17
    have K27 := K18.wr W19 (Or.inr M10)
    have B19 : Arf Z h19 a10 .char Value.int 1 (Upd (fun _ => (0 : Int32)) 0 (120 : Int32)) := B19
    refine Goes.on (T' := T19) (g' := (mkF m 66 #[.val (.int x0), .val (.int ((1 : Int32) + ((x0.toUInt32 >>> ((16 : Int32) &&& 31).toUInt32).toInt32 &&& (1 : Int32)))), .val (.int (120 : Int32)), .val (.int c1)] [(.ref a10), (.ref a4), (.ref a4)])) (fun _ k => st19 _ k) ?_
    obtain ⟨kC28, AC28⟩ := Arf.arv' B19 (by decide) (fun i hi => match i, hi with | 0, _ => own_fitN own_x.1) .null
    refine Goes.callCB X19 hx hZ (W := 1) rfl hown (own_w hw 11 rfl) (own_w hw 12 rfl) (own_w hw 13 rfl) (by decide) e19 (StrChars.Road.backV (W := 1) hZ (own_hnew hw) (kI := 4) (own_w hw 8 rfl) (cs := [(120 : Int32)]) (n := 1) (N := Int32.ofNat 1) (bs := [(120 : Int32)].map (fun c => c.toInt8.toInt32)) G4 Z26 C21 C24 C23 AC28 (Sta.ext C20.2 SC) hcs rfl rfl (by decide) (by decide) (own_one own_x.2.1) rfl (by decide) (by decide)) (by decide) (by decide) rfl (by rw [hml]; rfl) (a := a4) (argsL := [(.ref a10)]) (rest := [(.ref a4)]) rfl (lenOf pd_13 rfl) rfl (by show 2 * 0 + _ ≤ _; exact Nat.le_of_eq rfl) (hb hby d1_66) ?_
    intro v28 T28 L28 X28 hQ28
    obtain ⟨rfl, N28q, K28, A28, C28, t28, kb28, G28, M28, ne28, V28, B28⟩ := hQ28
    have N28 := Fr.app N19 N28q
    show Goes p e below _ T28 (mkF m 69 #[.val (.int x0), .val (.int ((1 : Int32) + ((x0.toUInt32 >>> ((16 : Int32) &&& 31).toUInt32).toInt32 &&& (1 : Int32)))), .val (.int (120 : Int32)), .val (.int c1)] [(.ref a4)])
    have K35 := K27.trans K28 (allS (Or.inr M4) all0)
    have Q28 : Str Z T28.heap a4 t28 kb28 (Int32.ofNat 1) (([(120 : Int32)].map (fun c => c.toInt8.toInt32)).map Value.int) := ⟨A28, C28, V28, B28⟩
    have M28q : h0.size ≤ t28 := Nat.le_trans K27.1 M28
    exact Goes.retA X28 hx hlk hret rfl rfl (hb hby d1_69) (by decide) (by decide) (by exact ⟨a4, t28, kb28, (120 : Int32), rfl, N28, K35, M4, M28q, Q28, own_x, (by decide)⟩)
  · refine Goes.on (T' := T2) (g' := (mkF m 55 #[.val (.int x0), .val (.int ((1 : Int32) + ((x0.toUInt32 >>> ((16 : Int32) &&& 31).toUInt32).toInt32 &&& (1 : Int32)))), .val (.int c0), .val (.int c1)] [])) (fun _ k => XS.icmpYes X2.here hx rfl (pc0 := 33) (pc' := 50) rfl (hb hby d1_33) rfl (XT.ii_ne_t hc3) (by decide) (by decide) (XS.iloadN X2.here hx rfl (hb hby d1_50) rfl (XS.iconst X2.here hx rfl (hb hby d1_51) (XS.icmpNo X2.here hx rfl (hb hby d1_52) rfl (XT.ii_ne_f hl) k)))) ?_
    obtain ⟨T36, h36, X36, e36, E36, A36, D36, U36, st36⟩ := newO X2 hx hZ hown (own_w hw 7 rfl) (own_w hw 8 rfl) (own_w hw 9 rfl) e2 (g := (mkF m 55 #[.val (.int x0), .val (.int ((1 : Int32) + ((x0.toUInt32 >>> ((16 : Int32) &&& 31).toUInt32).toInt32 &&& (1 : Int32)))), .val (.int c0), .val (.int c1)] [])) rfl (hb hby d1_55) (by decide) (by decide)
    obtain ⟨a36, g36⟩ : ∃ z, z = h0.size := ⟨_, rfl⟩
    rw [← g36] at A36 D36 U36 st36
    have M36 : h0.size ≤ a36 := Nat.le_trans K0.1 (Nat.le_of_eq g36.symm)
    have C37 := O0.ext E36
    have Z38 : n0 ≤ h36.size := Nat.le_trans Z0 E36.1
    have K39 := K0.ext E36
    have F40 : Fld Z h36 a36 "java/lang/String" "coder" "B" (.int (0 : Int32)) := D36 (Or.inr (own_w hw 34 rfl)) (ty := .byte) (by decide)
    have F41 : Fld Z h36 a36 "java/lang/String" "value" "[B" .null := D36 (Or.inr (own_w hw 36 rfl)) (ty := (.array .byte)) (by decide)
    have G36 : n0 ≤ a36 := Nat.le_trans Z0 (Nat.le_of_eq g36.symm)
    refine Goes.on (T' := T36) (g' := (mkF m 60 #[.val (.int x0), .val (.int ((1 : Int32) + ((x0.toUInt32 >>> ((16 : Int32) &&& 31).toUInt32).toInt32 &&& (1 : Int32)))), .val (.int c0), .val (.int c1)] [(.int (1 : Int32)), (.ref a36), (.ref a36)])) (fun _ k => st36 _ (XS.dup X36.here hx rfl (hb hby d1_58) rfl rfl (XS.iconst X36.here hx rfl (hb hby d1_59) k))) ?_
    obtain ⟨T42, h42, cA42, X42, e42, E42, A42, J42, st42⟩ := newPE X36 hx hZ (own_w hw 10 rfl) e36 (g := (mkF m 60 #[.val (.int x0), .val (.int ((1 : Int32) + ((x0.toUInt32 >>> ((16 : Int32) &&& 31).toUInt32).toInt32 &&& (1 : Int32)))), .val (.int c0), .val (.int c1)] [(.int (1 : Int32)), (.ref a36), (.ref a36)])) rfl (hb hby d1_60) rfl (by decide) (cap := 1) (by decide) (by decide) (by decide) (by decide) (ad := "[C") (by decide)
    obtain ⟨a42, g42⟩ : ∃ z, z = h36.size := ⟨_, rfl⟩
    rw [← g42] at A42 J42 st42
    have M42 : h0.size ≤ a42 := Nat.le_trans K39.1 (Nat.le_of_eq g42.symm)
    have C43 := C37.ext E42
    have C44 := A36.ext E42
    have C46 := F40.ext E42
    have C47 := F41.ext E42
    have ne48 : a36 ≠ a42 := Nat.ne_of_lt (Nat.lt_of_lt_of_le (A36).lt (Nat.le_of_eq g42.symm))
    have Z49 : n0 ≤ h42.size := Nat.le_trans Z38 E42.1
    have K50 := K39.ext E42
    have B42 : Arf Z h42 a42 .char Value.int 1 (fun _ => (0 : Int32)) := Arf.new A42 rfl
    have G42 : n0 ≤ a42 := Nat.le_trans Z38 (Nat.le_of_eq g42.symm)
    refine Goes.on (T' := T42) (g' := (mkF m 65 #[.val (.int x0), .val (.int ((1 : Int32) + ((x0.toUInt32 >>> ((16 : Int32) &&& 31).toUInt32).toInt32 &&& (1 : Int32)))), .val (.int c0), .val (.int c1)] [(.int c0), (.int (0 : Int32)), (.ref a42), (.ref a42), (.ref a36), (.ref a36)])) (fun _ k => st42 _ (XS.dup X42.here hx rfl (hb hby d1_62) rfl rfl (XS.iconst X42.here hx rfl (hb hby d1_63) (XS.iloadN X42.here hx rfl (hb hby d1_64) rfl k)))) ?_
    obtain ⟨T51, h51, X51, e51, W51, B51, st51⟩ := wrC X42 hx hZ e42 B42 (by decide) hc0.1 (g := (mkF m 65 #[.val (.int x0), .val (.int ((1 : Int32) + ((x0.toUInt32 >>> ((16 : Int32) &&& 31).toUInt32).toInt32 &&& (1 : Int32)))), .val (.int c0), .val (.int c1)] [(.int c0), (.int (0 : Int32)), (.ref a42), (.ref a42), (.ref a36), (.ref a36)])) rfl rfl (hb hby d1_65)
    have N51 := Fr.snoc X51 N2 G42
    have C52 := C43.wr W51 G42
    have C53 := C44.wr W51
    have C55 := C46.other W51 (Or.inl ne48)
    have C56 := C47.other W51 (Or.inl ne48)
    have Z58 : n0 ≤ h51.size := by rw [W51.size]; exact Z49
    have K59 := K50.wr W51 (Or.inr M42)
    have B51 : Arf Z h51 a42 .char Value.int 1 (Upd (fun _ => (0 : Int32)) 0 c0) := B51
    refine Goes.on (T' := T51) (g' := (mkF m 66 #[.val (.int x0), .val (.int ((1 : Int32) + ((x0.toUInt32 >>> ((16 : Int32) &&& 31).toUInt32).toInt32 &&& (1 : Int32)))), .val (.int c0), .val (.int c1)] [(.ref a42), (.ref a36), (.ref a36)])) (fun _ k => st51 _ k) ?_
    obtain ⟨kC60, AC60⟩ := Arf.arv' B51 (by decide) (fun i hi => match i, hi with | 0, _ => own_fitN hc0.1) .null
    refine Goes.callCB X51 hx hZ (W := 1) rfl hown (own_w hw 11 rfl) (own_w hw 12 rfl) (own_w hw 13 rfl) (by decide) e51 (StrChars.Road.backV (W := 1) hZ (own_hnew hw) (kI := 4) (own_w hw 8 rfl) (cs := [c0]) (n := 1) (N := Int32.ofNat 1) (bs := [c0].map (fun c => c.toInt8.toInt32)) G36 Z58 C53 C56 C55 AC60 (Sta.ext C52.2 SC) hcs rfl rfl (by decide) (by decide) (own_one hc0.2.1) rfl (by decide) (by decide)) (by decide) (by decide) rfl (by rw [hml]; rfl) (a := a36) (argsL := [(.ref a42)]) (rest := [(.ref a36)]) rfl (lenOf pd_13 rfl) rfl (by show 2 * 0 + _ ≤ _; exact Nat.le_of_eq rfl) (hb hby d1_66) ?_
    intro v60 T60 L60 X60 hQ60
    obtain ⟨rfl, N60q, K60, A60, C60, t60, kb60, G60, M60, ne60, V60, B60⟩ := hQ60
    have N60 := Fr.app N51 N60q
    show Goes p e below _ T60 (mkF m 69 #[.val (.int x0), .val (.int ((1 : Int32) + ((x0.toUInt32 >>> ((16 : Int32) &&& 31).toUInt32).toInt32 &&& (1 : Int32)))), .val (.int c0), .val (.int c1)] [(.ref a36)])
    have K67 := K59.trans K60 (allS (Or.inr M36) all0)
    have Q60 : Str Z T60.heap a36 t60 kb60 (Int32.ofNat 1) (([c0].map (fun c => c.toInt8.toInt32)).map Value.int) := ⟨A60, C60, V60, B60⟩
    have M60q : h0.size ≤ t60 := Nat.le_trans K59.1 M60
    exact Goes.retA X60 hx hlk hret rfl rfl (hb hby d1_69) (by decide) (by decide) (by exact ⟨a36, t60, kb60, c0, rfl, N60, K67, M36, M60q, Q60, hc0, hc3⟩)
theorem d1_41 : decode method_3_code 41 = .ok (.iload_n 3, 1) := by decide +kernel
theorem d1_42 : decode method_3_code 42 = .ok (.bipush 46, 2) := by decide +kernel
theorem d1_44 : decode method_3_code 44 = .ok (.if_icmp .ne 6, 3) := by decide +kernel
theorem d1_70 : decode method_3_code 70 = .ok (.new 13, 3) := by decide +kernel
theorem d1_73 : decode method_3_code 73 = .ok (.dup, 1) := by decide +kernel
theorem d1_74 : decode method_3_code 74 = .ok (.iconst 2, 1) := by decide +kernel
theorem d1_75 : decode method_3_code 75 = .ok (.newarray .char, 2) := by decide +kernel
theorem d1_77 : decode method_3_code 77 = .ok (.dup, 1) := by decide +kernel
theorem d1_78 : decode method_3_code 78 = .ok (.iconst 0, 1) := by decide +kernel
theorem d1_79 : decode method_3_code 79 = .ok (.iload_n 2, 1) := by decide +kernel
theorem d1_80 : decode method_3_code 80 = .ok (.castore, 1) := by decide +kernel
theorem d1_81 : decode method_3_code 81 = .ok (.dup, 1) := by decide +kernel
theorem d1_82 : decode method_3_code 82 = .ok (.iconst 1, 1) := by decide +kernel
theorem d1_83 : decode method_3_code 83 = .ok (.iload_n 3, 1) := by decide +kernel
theorem d1_84 : decode method_3_code 84 = .ok (.castore, 1) := by decide +kernel
theorem d1_85 : decode method_3_code 85 = .ok (.invokespecial 15, 3) := by decide +kernel
theorem d1_88 : decode method_3_code 88 = .ok (.areturn, 1) := by decide +kernel
set_option maxRecDepth 65536 in
set_option maxHeartbeats 40000000 in
theorem rmMk2 (l : Launch) (Z : State) (a0 : Array Value) (hw : ∀ d ∈ tables_1, d.before a0 Z = true) (x0 : Int32) (h0 : Heap) (n0 : Nat) (Z0 : n0 ≤ h0.size) (O0 : Old Z n0 h0) (cs : Int32) (SC : Sta Z Z.heap "java/lang/String" "COMPACT_STRINGS" "Z" (.int cs)) (hcs : ¬ cs = (0 : Int32)) (hl : ¬ ((1 : Int32) + ((x0.toUInt32 >>> ((16 : Int32) &&& 31).toUInt32).toInt32 &&& (1 : Int32))) = (1 : Int32)) :
    Pays l Z (⟨"com/example/narada/narada/ObjectAddressEqualsPinLaw", "make", "(I)Ljava/lang/String;"⟩ : MethodName) method_3_code 4 (some (.object "java/lang/String")) [] ({ frames := 4, cells := 4, slots := 64, locals := 70 } : Room) #[(.int x0)] h0 (fun v h L => ∃ (r b : Addr) (k : ClassId) (c0 c1 : Int32), v = some (.ref r) ∧ Fr n0 L ∧ Keep h0 h [] ∧ h0.size ≤ r ∧ h0.size ≤ b ∧ Str Z h r b k (Int32.ofNat 2) [Value.int (c0.toInt8.toInt32), Value.int (c1.toInt8.toInt32)] ∧ own_CH c0 ∧ own_CH c1 ∧ ¬ (c0 = (46 : Int32) ∧ c1 = (46 : Int32))) := by
  refine Pays.walk (plainFor_of_name pn_0) (fun m => ef_12 m x0 ) ?_
  intro p e s m below meth c T0 X0 hx hby hml hown hnm hZ e0 hret hlk
  have N0 := Fr.nil n0
  have K0 := Keep.refl h0 ([] : List Addr)
  refine Goes.on (T' := T0) (g' := (mkF m 14 #[.val (.int x0), .val (.int ((1 : Int32) + ((x0.toUInt32 >>> ((16 : Int32) &&& 31).toUInt32).toInt32 &&& (1 : Int32)))), .unset, .unset] [(.int (x0 &&& (255 : Int32)))])) (fun _ k => XS.iconst X0.here hx rfl (hb hby d1_0) (XS.iloadN X0.here hx rfl (hb hby d1_1) rfl (XS.bipush X0.here hx rfl (hb hby d1_2) (XS.iushr X0.here hx rfl (hb hby d1_4) rfl (XS.iconst X0.here hx rfl (hb hby d1_5) (XS.iand X0.here hx rfl (hb hby d1_6) rfl (XS.iadd X0.here hx rfl (hb hby d1_7) rfl (XS.istoreN X0.here hx rfl (hb hby d1_8) rfl (l' := #[.val (.int x0), .val (.int ((1 : Int32) + ((x0.toUInt32 >>> ((16 : Int32) &&& 31).toUInt32).toInt32 &&& (1 : Int32)))), .unset, .unset]) rfl (XS.iloadN X0.here hx rfl (hb hby d1_9) rfl (XS.sipush X0.here hx rfl (hb hby d1_10) (XS.iand X0.here hx rfl (hb hby d1_13) rfl k))))))))))) ?_
  refine Goes.callS X0 hx hZ 0 hown (own_w hw 4 rfl) (own_w hw 5 rfl) (own_w hw 2 rfl) (own_w hw 6 rfl) (by decide) e0 (rmfix l Z a0 hw (x0 &&& (255 : Int32)) h0 n0 Z0) (by decide) (by decide) (by decide) (by decide) rfl (by rw [hml]; rfl) (argsL := [(.int (x0 &&& (255 : Int32)))]) (rest := []) rfl (lenOf pd_12 rfl) rfl (by show 2 * 0 + _ ≤ _; exact Nat.le_of_eq rfl) (hb hby d1_14) ?_
  intro v1 T1 L1 X1 hQ1
  obtain ⟨rfl, N1q, e1⟩ := hQ1
  have N1 := Fr.app N0 N1q
  show Goes p e below _ T1 (mkF m 17 #[.val (.int x0), .val (.int ((1 : Int32) + ((x0.toUInt32 >>> ((16 : Int32) &&& 31).toUInt32).toInt32 &&& (1 : Int32)))), .unset, .unset] [(.int (Ffix (x0 &&& (255 : Int32))))])
  have hc0 := own_fix x0
  generalize Ffix (x0 &&& (255 : Int32)) = c0 at hc0 ⊢
  refine Goes.on (T' := T1) (g' := (mkF m 26 #[.val (.int x0), .val (.int ((1 : Int32) + ((x0.toUInt32 >>> ((16 : Int32) &&& 31).toUInt32).toInt32 &&& (1 : Int32)))), .val (.int c0), .unset] [(.int ((x0.toUInt32 >>> ((8 : Int32) &&& 31).toUInt32).toInt32 &&& (255 : Int32)))])) (fun _ k => XS.istoreN X1.here hx rfl (hb hby d1_17) rfl (l' := #[.val (.int x0), .val (.int ((1 : Int32) + ((x0.toUInt32 >>> ((16 : Int32) &&& 31).toUInt32).toInt32 &&& (1 : Int32)))), .val (.int c0), .unset]) rfl (XS.iloadN X1.here hx rfl (hb hby d1_18) rfl (XS.bipush X1.here hx rfl (hb hby d1_19) (XS.iushr X1.here hx rfl (hb hby d1_21) rfl (XS.sipush X1.here hx rfl (hb hby d1_22) (XS.iand X1.here hx rfl (hb hby d1_25) rfl k)))))) ?_
  refine Goes.callS X1 hx hZ 0 hown (own_w hw 4 rfl) (own_w hw 5 rfl) (own_w hw 2 rfl) (own_w hw 6 rfl) (by decide) e1 (rmfix l Z a0 hw ((x0.toUInt32 >>> ((8 : Int32) &&& 31).toUInt32).toInt32 &&& (255 : Int32)) h0 n0 Z0) (by decide) (by decide) (by decide) (by decide) rfl (by rw [hml]; rfl) (argsL := [(.int ((x0.toUInt32 >>> ((8 : Int32) &&& 31).toUInt32).toInt32 &&& (255 : Int32)))]) (rest := []) rfl (lenOf pd_12 rfl) rfl (by show 2 * 0 + _ ≤ _; exact Nat.le_of_eq rfl) (hb hby d1_26) ?_
  intro v2 T2 L2 X2 hQ2
  obtain ⟨rfl, N2q, e2⟩ := hQ2
  have N2 := Fr.app N1 N2q
  show Goes p e below _ T2 (mkF m 29 #[.val (.int x0), .val (.int ((1 : Int32) + ((x0.toUInt32 >>> ((16 : Int32) &&& 31).toUInt32).toInt32 &&& (1 : Int32)))), .val (.int c0), .unset] [(.int (Ffix ((x0.toUInt32 >>> ((8 : Int32) &&& 31).toUInt32).toInt32 &&& (255 : Int32))))])
  have hc1 := own_fix ((x0.toUInt32 >>> ((8 : Int32) &&& 31).toUInt32).toInt32)
  generalize Ffix ((x0.toUInt32 >>> ((8 : Int32) &&& 31).toUInt32).toInt32 &&& (255 : Int32)) = c1 at hc1 ⊢
  refine Goes.on (T' := T2) (g' := (mkF m 33 #[.val (.int x0), .val (.int ((1 : Int32) + ((x0.toUInt32 >>> ((16 : Int32) &&& 31).toUInt32).toInt32 &&& (1 : Int32)))), .val (.int c0), .val (.int c1)] [(.int (46 : Int32)), (.int c0)])) (fun _ k => XS.istoreN X2.here hx rfl (hb hby d1_29) rfl (l' := #[.val (.int x0), .val (.int ((1 : Int32) + ((x0.toUInt32 >>> ((16 : Int32) &&& 31).toUInt32).toInt32 &&& (1 : Int32)))), .val (.int c0), .val (.int c1)]) rfl (XS.iloadN X2.here hx rfl (hb hby d1_30) rfl (XS.bipush X2.here hx rfl (hb hby d1_31) k))) ?_
  by_cases hc3 : c0 = (46 : Int32)
  · refine Goes.on (T' := T2) (g' := (mkF m 44 #[.val (.int x0), .val (.int ((1 : Int32) + ((x0.toUInt32 >>> ((16 : Int32) &&& 31).toUInt32).toInt32 &&& (1 : Int32)))), .val (.int c0), .val (.int c1)] [(.int (46 : Int32)), (.int c1)])) (fun _ k => XS.icmpNo X2.here hx rfl (hb hby d1_33) rfl (XT.ii_ne_f hc3) (XS.iloadN X2.here hx rfl (hb hby d1_36) rfl (XS.iconst X2.here hx rfl (hb hby d1_37) (XS.icmpNo X2.here hx rfl (hb hby d1_38) rfl (XT.ii_eq_f hl) (XS.iloadN X2.here hx rfl (hb hby d1_41) rfl (XS.bipush X2.here hx rfl (hb hby d1_42) k)))))) ?_
    by_cases hc4 : c1 = (46 : Int32)
    · refine Goes.on (T' := T2) (g' := (mkF m 70 #[.val (.int x0), .val (.int ((1 : Int32) + ((x0.toUInt32 >>> ((16 : Int32) &&& 31).toUInt32).toInt32 &&& (1 : Int32)))), .val (.int (120 : Int32)), .val (.int c1)] [])) (fun _ k => XS.icmpNo X2.here hx rfl (hb hby d1_44) rfl (XT.ii_ne_f hc4) (XS.bipush X2.here hx rfl (hb hby d1_47) (XS.istoreN X2.here hx rfl (hb hby d1_49) rfl (l' := #[.val (.int x0), .val (.int ((1 : Int32) + ((x0.toUInt32 >>> ((16 : Int32) &&& 31).toUInt32).toInt32 &&& (1 : Int32)))), .val (.int (120 : Int32)), .val (.int c1)]) rfl (XS.iloadN X2.here hx rfl (hb hby d1_50) rfl (XS.iconst X2.here hx rfl (hb hby d1_51) (XS.icmpYes X2.here hx rfl (pc0 := 52) (pc' := 70) rfl (hb hby d1_52) rfl (XT.ii_ne_t hl) (by decide) (by decide) k)))))) ?_
      obtain ⟨T5, h5, X5, e5, E5, A5, D5, U5, st5⟩ := newO X2 hx hZ hown (own_w hw 7 rfl) (own_w hw 8 rfl) (own_w hw 9 rfl) e2 (g := (mkF m 70 #[.val (.int x0), .val (.int ((1 : Int32) + ((x0.toUInt32 >>> ((16 : Int32) &&& 31).toUInt32).toInt32 &&& (1 : Int32)))), .val (.int (120 : Int32)), .val (.int c1)] [])) rfl (hb hby d1_70) (by decide) (by decide)
      obtain ⟨a5, g5⟩ : ∃ z, z = h0.size := ⟨_, rfl⟩
      rw [← g5] at A5 D5 U5 st5
      have M5 : h0.size ≤ a5 := Nat.le_trans K0.1 (Nat.le_of_eq g5.symm)
      have C6 := O0.ext E5
      have Z7 : n0 ≤ h5.size := Nat.le_trans Z0 E5.1
      have K8 := K0.ext E5
      have F9 : Fld Z h5 a5 "java/lang/String" "coder" "B" (.int (0 : Int32)) := D5 (Or.inr (own_w hw 34 rfl)) (ty := .byte) (by decide)
      have F10 : Fld Z h5 a5 "java/lang/String" "value" "[B" .null := D5 (Or.inr (own_w hw 36 rfl)) (ty := (.array .byte)) (by decide)
      have G5 : n0 ≤ a5 := Nat.le_trans Z0 (Nat.le_of_eq g5.symm)
      refine Goes.on (T' := T5) (g' := (mkF m 75 #[.val (.int x0), .val (.int ((1 : Int32) + ((x0.toUInt32 >>> ((16 : Int32) &&& 31).toUInt32).toInt32 &&& (1 : Int32)))), .val (.int (120 : Int32)), .val (.int c1)] [(.int (2 : Int32)), (.ref a5), (.ref a5)])) (fun _ k => st5 _ (XS.dup X5.here hx rfl (hb hby d1_73) rfl rfl (XS.iconst X5.here hx rfl (hb hby d1_74) k))) ?_
      obtain ⟨T11, h11, cA11, X11, e11, E11, A11, J11, st11⟩ := newPE X5 hx hZ (own_w hw 10 rfl) e5 (g := (mkF m 75 #[.val (.int x0), .val (.int ((1 : Int32) + ((x0.toUInt32 >>> ((16 : Int32) &&& 31).toUInt32).toInt32 &&& (1 : Int32)))), .val (.int (120 : Int32)), .val (.int c1)] [(.int (2 : Int32)), (.ref a5), (.ref a5)])) rfl (hb hby d1_75) rfl (by decide) (cap := 2) (by decide) (by decide) (by decide) (by decide) (ad := "[C") (by decide)
      obtain ⟨a11, g11⟩ : ∃ z, z = h5.size := ⟨_, rfl⟩
      rw [← g11] at A11 J11 st11
      have M11 : h0.size ≤ a11 := Nat.le_trans K8.1 (Nat.le_of_eq g11.symm)
      have C12 := C6.ext E11
      have C13 := A5.ext E11
      have C15 := F9.ext E11
      have C16 := F10.ext E11
      have ne17 : a5 ≠ a11 := Nat.ne_of_lt (Nat.lt_of_lt_of_le (A5).lt (Nat.le_of_eq g11.symm))
      have Z18 : n0 ≤ h11.size := Nat.le_trans Z7 E11.1
      have K19 := K8.ext E11
      have B11 : Arf Z h11 a11 .char Value.int 2 (fun _ => (0 : Int32)) := Arf.new A11 rfl
      have G11 : n0 ≤ a11 := Nat.le_trans Z7 (Nat.le_of_eq g11.symm)
      refine Goes.on (T' := T11) (g' := (mkF m 80 #[.val (.int x0), .val (.int ((1 : Int32) + ((x0.toUInt32 >>> ((16 : Int32) &&& 31).toUInt32).toInt32 &&& (1 : Int32)))), .val (.int (120 : Int32)), .val (.int c1)] [(.int (120 : Int32)), (.int (0 : Int32)), (.ref a11), (.ref a11), (.ref a5), (.ref a5)])) (fun _ k => st11 _ (XS.dup X11.here hx rfl (hb hby d1_77) rfl rfl (XS.iconst X11.here hx rfl (hb hby d1_78) (XS.iloadN X11.here hx rfl (hb hby d1_79) rfl k)))) ?_
      obtain ⟨T20, h20, X20, e20, W20, B20, st20⟩ := wrC X11 hx hZ e11 B11 (by decide) rfl (g := (mkF m 80 #[.val (.int x0), .val (.int ((1 : Int32) + ((x0.toUInt32 >>> ((16 : Int32) &&& 31).toUInt32).toInt32 &&& (1 : Int32)))), .val (.int (120 : Int32)), .val (.int c1)] [(.int (120 : Int32)), (.int (0 : Int32)), (.ref a11), (.ref a11), (.ref a5), (.ref a5)])) rfl rfl (hb hby d1_80)
      have N20 := Fr.snoc X20 N2 G11
      have C21 := C12.wr W20 G11
      have C22 := C13.wr W20
      have C24 := C15.other W20 (Or.inl ne17)
      have C25 := C16.other W20 (Or.inl ne17)
      have Z27 : n0 ≤ h20.size := by rw [W20.size]; exact Z18
      have K28 := K19.wr W20 (Or.inr M11)
      have B20 : Arf Z h20 a11 .char Value.int 2 (Upd (fun _ => (0 : Int32)) 0 (120 : Int32)) := B20
      refine Goes.on (T' := T20) (g' := (mkF m 84 #[.val (.int x0), .val (.int ((1 : Int32) + ((x0.toUInt32 >>> ((16 : Int32) &&& 31).toUInt32).toInt32 &&& (1 : Int32)))), .val (.int (120 : Int32)), .val (.int c1)] [(.int c1), (.int (1 : Int32)), (.ref a11), (.ref a11), (.ref a5), (.ref a5)])) (fun _ k => st20 _ (XS.dup X20.here hx rfl (hb hby d1_81) rfl rfl (XS.iconst X20.here hx rfl (hb hby d1_82) (XS.iloadN X20.here hx rfl (hb hby d1_83) rfl k)))) ?_
      obtain ⟨T29, h29, X29, e29, W29, B29, st29⟩ := wrC X20 hx hZ e20 B20 (by decide) hc1.1 (g := (mkF m 84 #[.val (.int x0), .val (.int ((1 : Int32) + ((x0.toUInt32 >>> ((16 : Int32) &&& 31).toUInt32).toInt32 &&& (1 : Int32)))), .val (.int (120 : Int32)), .val (.int c1)] [(.int c1), (.int (1 : Int32)), (.ref a11), (.ref a11), (.ref a5), (.ref a5)])) rfl rfl (hb hby d1_84)
      have N29 := Fr.snoc X29 N20 G11
      have C30 := C21.wr W29 G11
      have C31 := C22.wr W29
      have C33 := C24.other W29 (Or.inl ne17)
      have C34 := C25.other W29 (Or.inl ne17)
      have Z36 : n0 ≤ h29.size := by rw [W29.size]; exact Z27
      have K37 := K28.wr W29 (Or.inr M11)
      have B29 : Arf Z h29 a11 .char Value.int 2 (Upd (Upd (fun _ => (0 : Int32)) 0 (120 : Int32)) 1 c1) := B29
      refine Goes.on (T' := T29) (g' := (mkF m 85 #[.val (.int x0), .val (.int ((1 : Int32) + ((x0.toUInt32 >>> ((16 : Int32) &&& 31).toUInt32).toInt32 &&& (1 : Int32)))), .val (.int (120 : Int32)), .val (.int c1)] [(.ref a11), (.ref a5), (.ref a5)])) (fun _ k => st29 _ k) ?_
      obtain ⟨kC38, AC38⟩ := Arf.arv' B29 (by decide) (fun i hi => match i, hi with | 0, _ => own_fitN own_x.1 | 1, _ => own_fitN hc1.1) .null
      refine Goes.callCB X29 hx hZ (W := 1) rfl hown (own_w hw 11 rfl) (own_w hw 12 rfl) (own_w hw 13 rfl) (by decide) e29 (StrChars.Road.backV (W := 1) hZ (own_hnew hw) (kI := 4) (own_w hw 8 rfl) (cs := [(120 : Int32), c1]) (n := 2) (N := Int32.ofNat 2) (bs := [(120 : Int32), c1].map (fun c => c.toInt8.toInt32)) G5 Z36 C31 C34 C33 AC38 (Sta.ext C30.2 SC) hcs rfl rfl (by decide) (by decide) (own_two own_x.2.1 hc1.2.1) rfl (by decide) (by decide)) (by decide) (by decide) rfl (by rw [hml]; rfl) (a := a5) (argsL := [(.ref a11)]) (rest := [(.ref a5)]) rfl (lenOf pd_13 rfl) rfl (by show 2 * 0 + _ ≤ _; exact Nat.le_of_eq rfl) (hb hby d1_85) ?_
      intro v38 T38 L38 X38 hQ38
      obtain ⟨rfl, N38q, K38, A38, C38, t38, kb38, G38, M38, ne38, V38, B38⟩ := hQ38
      have N38 := Fr.app N29 N38q
      show Goes p e below _ T38 (mkF m 88 #[.val (.int x0), .val (.int ((1 : Int32) + ((x0.toUInt32 >>> ((16 : Int32) &&& 31).toUInt32).toInt32 &&& (1 : Int32)))), .val (.int (120 : Int32)), .val (.int c1)] [(.ref a5)])
      have K45 := K37.trans K38 (allS (Or.inr M5) all0)
      have Q38 : Str Z T38.heap a5 t38 kb38 (Int32.ofNat 2) (([(120 : Int32), c1].map (fun c => c.toInt8.toInt32)).map Value.int) := ⟨A38, C38, V38, B38⟩
      have M38q : h0.size ≤ t38 := Nat.le_trans K37.1 M38
      exact Goes.retA X38 hx hlk hret rfl rfl (hb hby d1_88) (by decide) (by decide) (by exact ⟨a5, t38, kb38, (120 : Int32), c1, rfl, N38, K45, M5, M38q, Q38, own_x, hc1, (fun q => absurd q.1 (by decide))⟩)
    · refine Goes.on (T' := T2) (g' := (mkF m 70 #[.val (.int x0), .val (.int ((1 : Int32) + ((x0.toUInt32 >>> ((16 : Int32) &&& 31).toUInt32).toInt32 &&& (1 : Int32)))), .val (.int c0), .val (.int c1)] [])) (fun _ k => XS.icmpYes X2.here hx rfl (pc0 := 44) (pc' := 50) rfl (hb hby d1_44) rfl (XT.ii_ne_t hc4) (by decide) (by decide) (XS.iloadN X2.here hx rfl (hb hby d1_50) rfl (XS.iconst X2.here hx rfl (hb hby d1_51) (XS.icmpYes X2.here hx rfl (pc0 := 52) (pc' := 70) rfl (hb hby d1_52) rfl (XT.ii_ne_t hl) (by decide) (by decide) k)))) ?_
      obtain ⟨T46, h46, X46, e46, E46, A46, D46, U46, st46⟩ := newO X2 hx hZ hown (own_w hw 7 rfl) (own_w hw 8 rfl) (own_w hw 9 rfl) e2 (g := (mkF m 70 #[.val (.int x0), .val (.int ((1 : Int32) + ((x0.toUInt32 >>> ((16 : Int32) &&& 31).toUInt32).toInt32 &&& (1 : Int32)))), .val (.int c0), .val (.int c1)] [])) rfl (hb hby d1_70) (by decide) (by decide)
      obtain ⟨a46, g46⟩ : ∃ z, z = h0.size := ⟨_, rfl⟩
      rw [← g46] at A46 D46 U46 st46
      have M46 : h0.size ≤ a46 := Nat.le_trans K0.1 (Nat.le_of_eq g46.symm)
      have C47 := O0.ext E46
      have Z48 : n0 ≤ h46.size := Nat.le_trans Z0 E46.1
      have K49 := K0.ext E46
      have F50 : Fld Z h46 a46 "java/lang/String" "coder" "B" (.int (0 : Int32)) := D46 (Or.inr (own_w hw 34 rfl)) (ty := .byte) (by decide)
      have F51 : Fld Z h46 a46 "java/lang/String" "value" "[B" .null := D46 (Or.inr (own_w hw 36 rfl)) (ty := (.array .byte)) (by decide)
      have G46 : n0 ≤ a46 := Nat.le_trans Z0 (Nat.le_of_eq g46.symm)
      refine Goes.on (T' := T46) (g' := (mkF m 75 #[.val (.int x0), .val (.int ((1 : Int32) + ((x0.toUInt32 >>> ((16 : Int32) &&& 31).toUInt32).toInt32 &&& (1 : Int32)))), .val (.int c0), .val (.int c1)] [(.int (2 : Int32)), (.ref a46), (.ref a46)])) (fun _ k => st46 _ (XS.dup X46.here hx rfl (hb hby d1_73) rfl rfl (XS.iconst X46.here hx rfl (hb hby d1_74) k))) ?_
      obtain ⟨T52, h52, cA52, X52, e52, E52, A52, J52, st52⟩ := newPE X46 hx hZ (own_w hw 10 rfl) e46 (g := (mkF m 75 #[.val (.int x0), .val (.int ((1 : Int32) + ((x0.toUInt32 >>> ((16 : Int32) &&& 31).toUInt32).toInt32 &&& (1 : Int32)))), .val (.int c0), .val (.int c1)] [(.int (2 : Int32)), (.ref a46), (.ref a46)])) rfl (hb hby d1_75) rfl (by decide) (cap := 2) (by decide) (by decide) (by decide) (by decide) (ad := "[C") (by decide)
      obtain ⟨a52, g52⟩ : ∃ z, z = h46.size := ⟨_, rfl⟩
      rw [← g52] at A52 J52 st52
      have M52 : h0.size ≤ a52 := Nat.le_trans K49.1 (Nat.le_of_eq g52.symm)
      have C53 := C47.ext E52
      have C54 := A46.ext E52
      have C56 := F50.ext E52
      have C57 := F51.ext E52
      have ne58 : a46 ≠ a52 := Nat.ne_of_lt (Nat.lt_of_lt_of_le (A46).lt (Nat.le_of_eq g52.symm))
      have Z59 : n0 ≤ h52.size := Nat.le_trans Z48 E52.1
      have K60 := K49.ext E52
      have B52 : Arf Z h52 a52 .char Value.int 2 (fun _ => (0 : Int32)) := Arf.new A52 rfl
      have G52 : n0 ≤ a52 := Nat.le_trans Z48 (Nat.le_of_eq g52.symm)
      refine Goes.on (T' := T52) (g' := (mkF m 80 #[.val (.int x0), .val (.int ((1 : Int32) + ((x0.toUInt32 >>> ((16 : Int32) &&& 31).toUInt32).toInt32 &&& (1 : Int32)))), .val (.int c0), .val (.int c1)] [(.int c0), (.int (0 : Int32)), (.ref a52), (.ref a52), (.ref a46), (.ref a46)])) (fun _ k => st52 _ (XS.dup X52.here hx rfl (hb hby d1_77) rfl rfl (XS.iconst X52.here hx rfl (hb hby d1_78) (XS.iloadN X52.here hx rfl (hb hby d1_79) rfl k)))) ?_
      obtain ⟨T61, h61, X61, e61, W61, B61, st61⟩ := wrC X52 hx hZ e52 B52 (by decide) hc0.1 (g := (mkF m 80 #[.val (.int x0), .val (.int ((1 : Int32) + ((x0.toUInt32 >>> ((16 : Int32) &&& 31).toUInt32).toInt32 &&& (1 : Int32)))), .val (.int c0), .val (.int c1)] [(.int c0), (.int (0 : Int32)), (.ref a52), (.ref a52), (.ref a46), (.ref a46)])) rfl rfl (hb hby d1_80)
      have N61 := Fr.snoc X61 N2 G52
      have C62 := C53.wr W61 G52
      have C63 := C54.wr W61
      have C65 := C56.other W61 (Or.inl ne58)
      have C66 := C57.other W61 (Or.inl ne58)
      have Z68 : n0 ≤ h61.size := by rw [W61.size]; exact Z59
      have K69 := K60.wr W61 (Or.inr M52)
      have B61 : Arf Z h61 a52 .char Value.int 2 (Upd (fun _ => (0 : Int32)) 0 c0) := B61
      refine Goes.on (T' := T61) (g' := (mkF m 84 #[.val (.int x0), .val (.int ((1 : Int32) + ((x0.toUInt32 >>> ((16 : Int32) &&& 31).toUInt32).toInt32 &&& (1 : Int32)))), .val (.int c0), .val (.int c1)] [(.int c1), (.int (1 : Int32)), (.ref a52), (.ref a52), (.ref a46), (.ref a46)])) (fun _ k => st61 _ (XS.dup X61.here hx rfl (hb hby d1_81) rfl rfl (XS.iconst X61.here hx rfl (hb hby d1_82) (XS.iloadN X61.here hx rfl (hb hby d1_83) rfl k)))) ?_
      obtain ⟨T70, h70, X70, e70, W70, B70, st70⟩ := wrC X61 hx hZ e61 B61 (by decide) hc1.1 (g := (mkF m 84 #[.val (.int x0), .val (.int ((1 : Int32) + ((x0.toUInt32 >>> ((16 : Int32) &&& 31).toUInt32).toInt32 &&& (1 : Int32)))), .val (.int c0), .val (.int c1)] [(.int c1), (.int (1 : Int32)), (.ref a52), (.ref a52), (.ref a46), (.ref a46)])) rfl rfl (hb hby d1_84)
      have N70 := Fr.snoc X70 N61 G52
      have C71 := C62.wr W70 G52
      have C72 := C63.wr W70
      have C74 := C65.other W70 (Or.inl ne58)
      have C75 := C66.other W70 (Or.inl ne58)
      have Z77 : n0 ≤ h70.size := by rw [W70.size]; exact Z68
      have K78 := K69.wr W70 (Or.inr M52)
      have B70 : Arf Z h70 a52 .char Value.int 2 (Upd (Upd (fun _ => (0 : Int32)) 0 c0) 1 c1) := B70
      refine Goes.on (T' := T70) (g' := (mkF m 85 #[.val (.int x0), .val (.int ((1 : Int32) + ((x0.toUInt32 >>> ((16 : Int32) &&& 31).toUInt32).toInt32 &&& (1 : Int32)))), .val (.int c0), .val (.int c1)] [(.ref a52), (.ref a46), (.ref a46)])) (fun _ k => st70 _ k) ?_
      obtain ⟨kC79, AC79⟩ := Arf.arv' B70 (by decide) (fun i hi => match i, hi with | 0, _ => own_fitN hc0.1 | 1, _ => own_fitN hc1.1) .null
      refine Goes.callCB X70 hx hZ (W := 1) rfl hown (own_w hw 11 rfl) (own_w hw 12 rfl) (own_w hw 13 rfl) (by decide) e70 (StrChars.Road.backV (W := 1) hZ (own_hnew hw) (kI := 4) (own_w hw 8 rfl) (cs := [c0, c1]) (n := 2) (N := Int32.ofNat 2) (bs := [c0, c1].map (fun c => c.toInt8.toInt32)) G46 Z77 C72 C75 C74 AC79 (Sta.ext C71.2 SC) hcs rfl rfl (by decide) (by decide) (own_two hc0.2.1 hc1.2.1) rfl (by decide) (by decide)) (by decide) (by decide) rfl (by rw [hml]; rfl) (a := a46) (argsL := [(.ref a52)]) (rest := [(.ref a46)]) rfl (lenOf pd_13 rfl) rfl (by show 2 * 0 + _ ≤ _; exact Nat.le_of_eq rfl) (hb hby d1_85) ?_
      intro v79 T79 L79 X79 hQ79
      obtain ⟨rfl, N79q, K79, A79, C79, t79, kb79, G79, M79, ne79, V79, B79⟩ := hQ79
      have N79 := Fr.app N70 N79q
      show Goes p e below _ T79 (mkF m 88 #[.val (.int x0), .val (.int ((1 : Int32) + ((x0.toUInt32 >>> ((16 : Int32) &&& 31).toUInt32).toInt32 &&& (1 : Int32)))), .val (.int c0), .val (.int c1)] [(.ref a46)])
      have K86 := K78.trans K79 (allS (Or.inr M46) all0)
      have Q79 : Str Z T79.heap a46 t79 kb79 (Int32.ofNat 2) (([c0, c1].map (fun c => c.toInt8.toInt32)).map Value.int) := ⟨A79, C79, V79, B79⟩
      have M79q : h0.size ≤ t79 := Nat.le_trans K78.1 M79
      exact Goes.retA X79 hx hlk hret rfl rfl (hb hby d1_88) (by decide) (by decide) (by exact ⟨a46, t79, kb79, c0, c1, rfl, N79, K86, M46, M79q, Q79, hc0, hc1, (fun q => hc4 q.2)⟩)
  · refine Goes.on (T' := T2) (g' := (mkF m 70 #[.val (.int x0), .val (.int ((1 : Int32) + ((x0.toUInt32 >>> ((16 : Int32) &&& 31).toUInt32).toInt32 &&& (1 : Int32)))), .val (.int c0), .val (.int c1)] [])) (fun _ k => XS.icmpYes X2.here hx rfl (pc0 := 33) (pc' := 50) rfl (hb hby d1_33) rfl (XT.ii_ne_t hc3) (by decide) (by decide) (XS.iloadN X2.here hx rfl (hb hby d1_50) rfl (XS.iconst X2.here hx rfl (hb hby d1_51) (XS.icmpYes X2.here hx rfl (pc0 := 52) (pc' := 70) rfl (hb hby d1_52) rfl (XT.ii_ne_t hl) (by decide) (by decide) k)))) ?_
    obtain ⟨T87, h87, X87, e87, E87, A87, D87, U87, st87⟩ := newO X2 hx hZ hown (own_w hw 7 rfl) (own_w hw 8 rfl) (own_w hw 9 rfl) e2 (g := (mkF m 70 #[.val (.int x0), .val (.int ((1 : Int32) + ((x0.toUInt32 >>> ((16 : Int32) &&& 31).toUInt32).toInt32 &&& (1 : Int32)))), .val (.int c0), .val (.int c1)] [])) rfl (hb hby d1_70) (by decide) (by decide)
    obtain ⟨a87, g87⟩ : ∃ z, z = h0.size := ⟨_, rfl⟩
    rw [← g87] at A87 D87 U87 st87
    have M87 : h0.size ≤ a87 := Nat.le_trans K0.1 (Nat.le_of_eq g87.symm)
    have C88 := O0.ext E87
    have Z89 : n0 ≤ h87.size := Nat.le_trans Z0 E87.1
    have K90 := K0.ext E87
    have F91 : Fld Z h87 a87 "java/lang/String" "coder" "B" (.int (0 : Int32)) := D87 (Or.inr (own_w hw 34 rfl)) (ty := .byte) (by decide)
    have F92 : Fld Z h87 a87 "java/lang/String" "value" "[B" .null := D87 (Or.inr (own_w hw 36 rfl)) (ty := (.array .byte)) (by decide)
    have G87 : n0 ≤ a87 := Nat.le_trans Z0 (Nat.le_of_eq g87.symm)
    refine Goes.on (T' := T87) (g' := (mkF m 75 #[.val (.int x0), .val (.int ((1 : Int32) + ((x0.toUInt32 >>> ((16 : Int32) &&& 31).toUInt32).toInt32 &&& (1 : Int32)))), .val (.int c0), .val (.int c1)] [(.int (2 : Int32)), (.ref a87), (.ref a87)])) (fun _ k => st87 _ (XS.dup X87.here hx rfl (hb hby d1_73) rfl rfl (XS.iconst X87.here hx rfl (hb hby d1_74) k))) ?_
    obtain ⟨T93, h93, cA93, X93, e93, E93, A93, J93, st93⟩ := newPE X87 hx hZ (own_w hw 10 rfl) e87 (g := (mkF m 75 #[.val (.int x0), .val (.int ((1 : Int32) + ((x0.toUInt32 >>> ((16 : Int32) &&& 31).toUInt32).toInt32 &&& (1 : Int32)))), .val (.int c0), .val (.int c1)] [(.int (2 : Int32)), (.ref a87), (.ref a87)])) rfl (hb hby d1_75) rfl (by decide) (cap := 2) (by decide) (by decide) (by decide) (by decide) (ad := "[C") (by decide)
    obtain ⟨a93, g93⟩ : ∃ z, z = h87.size := ⟨_, rfl⟩
    rw [← g93] at A93 J93 st93
    have M93 : h0.size ≤ a93 := Nat.le_trans K90.1 (Nat.le_of_eq g93.symm)
    have C94 := C88.ext E93
    have C95 := A87.ext E93
    have C97 := F91.ext E93
    have C98 := F92.ext E93
    have ne99 : a87 ≠ a93 := Nat.ne_of_lt (Nat.lt_of_lt_of_le (A87).lt (Nat.le_of_eq g93.symm))
    have Z100 : n0 ≤ h93.size := Nat.le_trans Z89 E93.1
    have K101 := K90.ext E93
    have B93 : Arf Z h93 a93 .char Value.int 2 (fun _ => (0 : Int32)) := Arf.new A93 rfl
    have G93 : n0 ≤ a93 := Nat.le_trans Z89 (Nat.le_of_eq g93.symm)
    refine Goes.on (T' := T93) (g' := (mkF m 80 #[.val (.int x0), .val (.int ((1 : Int32) + ((x0.toUInt32 >>> ((16 : Int32) &&& 31).toUInt32).toInt32 &&& (1 : Int32)))), .val (.int c0), .val (.int c1)] [(.int c0), (.int (0 : Int32)), (.ref a93), (.ref a93), (.ref a87), (.ref a87)])) (fun _ k => st93 _ (XS.dup X93.here hx rfl (hb hby d1_77) rfl rfl (XS.iconst X93.here hx rfl (hb hby d1_78) (XS.iloadN X93.here hx rfl (hb hby d1_79) rfl k)))) ?_
    obtain ⟨T102, h102, X102, e102, W102, B102, st102⟩ := wrC X93 hx hZ e93 B93 (by decide) hc0.1 (g := (mkF m 80 #[.val (.int x0), .val (.int ((1 : Int32) + ((x0.toUInt32 >>> ((16 : Int32) &&& 31).toUInt32).toInt32 &&& (1 : Int32)))), .val (.int c0), .val (.int c1)] [(.int c0), (.int (0 : Int32)), (.ref a93), (.ref a93), (.ref a87), (.ref a87)])) rfl rfl (hb hby d1_80)
    have N102 := Fr.snoc X102 N2 G93
    have C103 := C94.wr W102 G93
    have C104 := C95.wr W102
    have C106 := C97.other W102 (Or.inl ne99)
    have C107 := C98.other W102 (Or.inl ne99)
    have Z109 : n0 ≤ h102.size := by rw [W102.size]; exact Z100
    have K110 := K101.wr W102 (Or.inr M93)
    have B102 : Arf Z h102 a93 .char Value.int 2 (Upd (fun _ => (0 : Int32)) 0 c0) := B102
    refine Goes.on (T' := T102) (g' := (mkF m 84 #[.val (.int x0), .val (.int ((1 : Int32) + ((x0.toUInt32 >>> ((16 : Int32) &&& 31).toUInt32).toInt32 &&& (1 : Int32)))), .val (.int c0), .val (.int c1)] [(.int c1), (.int (1 : Int32)), (.ref a93), (.ref a93), (.ref a87), (.ref a87)])) (fun _ k => st102 _ (XS.dup X102.here hx rfl (hb hby d1_81) rfl rfl (XS.iconst X102.here hx rfl (hb hby d1_82) (XS.iloadN X102.here hx rfl (hb hby d1_83) rfl k)))) ?_
    obtain ⟨T111, h111, X111, e111, W111, B111, st111⟩ := wrC X102 hx hZ e102 B102 (by decide) hc1.1 (g := (mkF m 84 #[.val (.int x0), .val (.int ((1 : Int32) + ((x0.toUInt32 >>> ((16 : Int32) &&& 31).toUInt32).toInt32 &&& (1 : Int32)))), .val (.int c0), .val (.int c1)] [(.int c1), (.int (1 : Int32)), (.ref a93), (.ref a93), (.ref a87), (.ref a87)])) rfl rfl (hb hby d1_84)
    have N111 := Fr.snoc X111 N102 G93
    have C112 := C103.wr W111 G93
    have C113 := C104.wr W111
    have C115 := C106.other W111 (Or.inl ne99)
    have C116 := C107.other W111 (Or.inl ne99)
    have Z118 : n0 ≤ h111.size := by rw [W111.size]; exact Z109
    have K119 := K110.wr W111 (Or.inr M93)
    have B111 : Arf Z h111 a93 .char Value.int 2 (Upd (Upd (fun _ => (0 : Int32)) 0 c0) 1 c1) := B111
    refine Goes.on (T' := T111) (g' := (mkF m 85 #[.val (.int x0), .val (.int ((1 : Int32) + ((x0.toUInt32 >>> ((16 : Int32) &&& 31).toUInt32).toInt32 &&& (1 : Int32)))), .val (.int c0), .val (.int c1)] [(.ref a93), (.ref a87), (.ref a87)])) (fun _ k => st111 _ k) ?_
    obtain ⟨kC120, AC120⟩ := Arf.arv' B111 (by decide) (fun i hi => match i, hi with | 0, _ => own_fitN hc0.1 | 1, _ => own_fitN hc1.1) .null
    refine Goes.callCB X111 hx hZ (W := 1) rfl hown (own_w hw 11 rfl) (own_w hw 12 rfl) (own_w hw 13 rfl) (by decide) e111 (StrChars.Road.backV (W := 1) hZ (own_hnew hw) (kI := 4) (own_w hw 8 rfl) (cs := [c0, c1]) (n := 2) (N := Int32.ofNat 2) (bs := [c0, c1].map (fun c => c.toInt8.toInt32)) G87 Z118 C113 C116 C115 AC120 (Sta.ext C112.2 SC) hcs rfl rfl (by decide) (by decide) (own_two hc0.2.1 hc1.2.1) rfl (by decide) (by decide)) (by decide) (by decide) rfl (by rw [hml]; rfl) (a := a87) (argsL := [(.ref a93)]) (rest := [(.ref a87)]) rfl (lenOf pd_13 rfl) rfl (by show 2 * 0 + _ ≤ _; exact Nat.le_of_eq rfl) (hb hby d1_85) ?_
    intro v120 T120 L120 X120 hQ120
    obtain ⟨rfl, N120q, K120, A120, C120, t120, kb120, G120, M120, ne120, V120, B120⟩ := hQ120
    have N120 := Fr.app N111 N120q
    show Goes p e below _ T120 (mkF m 88 #[.val (.int x0), .val (.int ((1 : Int32) + ((x0.toUInt32 >>> ((16 : Int32) &&& 31).toUInt32).toInt32 &&& (1 : Int32)))), .val (.int c0), .val (.int c1)] [(.ref a87)])
    have K127 := K119.trans K120 (allS (Or.inr M87) all0)
    have Q120 : Str Z T120.heap a87 t120 kb120 (Int32.ofNat 2) (([c0, c1].map (fun c => c.toInt8.toInt32)).map Value.int) := ⟨A120, C120, V120, B120⟩
    have M120q : h0.size ≤ t120 := Nat.le_trans K119.1 M120
    exact Goes.retA X120 hx hlk hret rfl rfl (hb hby d1_88) (by decide) (by decide) (by exact ⟨a87, t120, kb120, c0, c1, rfl, N120, K127, M87, M120q, Q120, hc0, hc1, (fun q => hc3 q.1)⟩)
theorem pd_14 : parseMethodDescriptor "(I)Ljava/lang/String;" = some ⟨[.int], some (.object "java/lang/String")⟩ := by decide +kernel
theorem pd_15 : parseMethodDescriptor "(Ljava/lang/String;J)V" = some ⟨[(.object "java/lang/String"), .long], none⟩ := by decide +kernel
theorem pd_16 : parseMethodDescriptor "(Ljava/lang/String;Ljava/lang/String;)Z" = some ⟨[(.object "java/lang/String"), (.object "java/lang/String")], some .boolean⟩ := by decide +kernel
theorem ef_13 (m : MethodId) (x0 : Int32) (x1 : Int32) (x2 : Int64) (x3 : Int64) (x4 : Int32) : entryFrame m #[(.int x0), (.int x1), (.long x2), (.long x3), (.int x4)] maxLocals = mkF m 0 #[.val (.int x0), .val (.int x1), .val (.long x2), .second, .val (.long x3), .second, .val (.int x4), .unset, .unset, .unset, .unset, .unset, .unset, .unset, .unset] [] := by first | (simp [entryFrame, mkF, argsToLocals, Value.category, maxLocals]; done) | rfl
set_option maxRecDepth 65536 in
set_option maxHeartbeats 40000000 in
theorem rm0 (l : Launch) (Z : State) (a0 : Array Value) (hw : ∀ d ∈ tables_1, d.before a0 Z = true) (x0 x1 : Int32) (x2 x3 : Int64) (x4 : Int32) (h0 : Heap) (n0 : Nat) (Z0 : n0 ≤ h0.size) (hEL : EW Z a0 consts_1) (O0 : Old Z n0 h0) (cs : Int32) (SC : Sta Z Z.heap "java/lang/String" "COMPACT_STRINGS" "Z" (.int cs)) (hcs : ¬ cs = (0 : Int32)) (sf : Value) (SF : Sta Z Z.heap "jdk/internal/util/Preconditions" "SIOOBE_FORMATTER" "Ljava/util/function/BiFunction;" sf) (hsf : sf.isRef = true) :
    PaysW l Z consts_1 x code maxLocals ret tables_1 room_1 #[(.int x0), (.int x1), (.long x2), (.long x3), (.int x4)] h0 (fun v h L => v = some (.int (1 : Int32)) ∧ Fr n0 L) := by
  refine PaysW.walk (plainFor_of_name pn_0) (fun m => ef_13 m x0 x1 x2 x3 x4 ) ?_
  intro p e s m below meth c T0 X0 hx hby hml hown hnm hZ e0 hret hlk hS0 RR0
  have hk0 : 0 ≤ h0.size := Nat.zero_le _
  have S0 : h0.size ≤ h0.size := Nat.le_refl _
  have wS := own_wS hw
  have hown : (s.setVm s.vm).vm.findClass "com/example/narada/narada/ObjectAddressEqualsPinLaw" = some m.cls := hown
  have N0 := Fr.nil n0
  refine Goes.on (T' := T0) (g' := (mkF m 1 #[.val (.int x0), .val (.int x1), .val (.long x2), .second, .val (.long x3), .second, .val (.int x4), .unset, .unset, .unset, .unset, .unset, .unset, .unset, .unset] [(.int x0)])) (fun _ k => XS.iloadN X0.here hx rfl (hb hby at_0) rfl k) ?_
  by_cases hc1 : ((1 : Int32) + ((x0.toUInt32 >>> ((16 : Int32) &&& 31).toUInt32).toInt32 &&& (1 : Int32))) = (1 : Int32)
  · refine Goes.callS X0 hx hZ 0 hown (own_w hw 0 rfl) (own_w hw 1 rfl) (own_w hw 2 rfl) (own_w hw 3 rfl) (by decide) e0 (rmMk1 l Z a0 hw x0 h0 n0 Z0 O0 cs SC hcs hc1) (by decide) (by decide) (by decide) (by decide) rfl (by rw [hml]; rfl) (argsL := [(.int x0)]) (rest := []) rfl (lenOf pd_14 rfl) rfl (by show 2 * 0 + _ ≤ _; exact Nat.le_of_eq rfl) (hb hby at_1) ?_
    intro v2 T2 L2 X2 hQ2
    obtain ⟨r2, b2, kb2, c02, rfl, N2q, K2, mr2, mb2, Q2, hc02, no2⟩ := hQ2
    have N2 := Fr.app N0 N2q
    show Goes p e below _ T2 (mkF m 4 #[.val (.int x0), .val (.int x1), .val (.long x2), .second, .val (.long x3), .second, .val (.int x4), .unset, .unset, .unset, .unset, .unset, .unset, .unset, .unset] [(.ref r2)])
    have C3 := O0.keep K2 all0
    have Z4 : n0 ≤ T2.heap.size := Nat.le_trans Z0 K2.1
    have Z5 : 0 ≤ T2.heap.size := Nat.le_trans hk0 K2.1
    have RR7 := RR0.trans (CHr.keep K2 all0 RR0.1)
    refine Goes.on (T' := T2) (g' := (mkF m 6 #[.val (.int x0), .val (.int x1), .val (.long x2), .second, .val (.long x3), .second, .val (.int x4), .val (.ref r2), .unset, .unset, .unset, .unset, .unset, .unset, .unset] [])) (fun _ k => XS.astore X2.here hx rfl (hb hby at_4) rfl rfl (l' := #[.val (.int x0), .val (.int x1), .val (.long x2), .second, .val (.long x3), .second, .val (.int x4), .val (.ref r2), .unset, .unset, .unset, .unset, .unset, .unset, .unset]) rfl k) ?_
    refine Goes.joinI (T' := T2) (fr := fun z8 => (mkF m 20 #[.val (.int x0), .val (.int x1), .val (.long x2), .second, .val (.long x3), .second, .val (.int x4), .val (.ref r2), .unset, .unset, .unset, .unset, .unset, .unset, .unset] [(.int z8)])) ?_ ?_
    · intro z8
      by_cases hc9 : ((1 : Int32) + ((z8.toUInt32 >>> ((16 : Int32) &&& 31).toUInt32).toInt32 &&& (1 : Int32))) = (1 : Int32)
      · refine Goes.callS X2 hx hZ 0 hown (own_w hw 0 rfl) (own_w hw 1 rfl) (own_w hw 2 rfl) (own_w hw 3 rfl) (by decide) rfl (rmMk1 l Z a0 hw z8 T2.heap n0 Z4 C3 cs SC hcs hc9) (by decide) (by decide) (by decide) (by decide) rfl (by rw [hml]; rfl) (argsL := [(.int z8)]) (rest := []) rfl (lenOf pd_14 rfl) rfl (by show 2 * 0 + _ ≤ _; exact Nat.le_of_eq rfl) (hb hby at_20) ?_
        intro v10 T10 L10 X10 hQ10
        obtain ⟨r10, b10, kb10, c010, rfl, N10q, K10, mr10, mb10, Q10, hc010, no10⟩ := hQ10
        have N10 := Fr.app N2 N10q
        show Goes p e below _ T10 (mkF m 23 #[.val (.int x0), .val (.int x1), .val (.long x2), .second, .val (.long x3), .second, .val (.int x4), .val (.ref r2), .unset, .unset, .unset, .unset, .unset, .unset, .unset] [(.ref r10)])
        have C11 := C3.keep K10 all0
        have C12 := Q2.keep K10 nin0 nin0
        have Z13 : n0 ≤ T10.heap.size := Nat.le_trans Z4 K10.1
        have Z14 : 0 ≤ T10.heap.size := Nat.le_trans Z5 K10.1
        have RR16 := RR7.trans (CHr.keep K10 all0 RR7.1)
        refine Goes.on (T' := T10) (g' := (mkF m 25 #[.val (.int x0), .val (.int x1), .val (.long x2), .second, .val (.long x3), .second, .val (.int x4), .val (.ref r2), .val (.ref r10), .unset, .unset, .unset, .unset, .unset, .unset] [])) (fun _ k => XS.astore X10.here hx rfl (hb hby at_23) rfl rfl (l' := #[.val (.int x0), .val (.int x1), .val (.long x2), .second, .val (.long x3), .second, .val (.int x4), .val (.ref r2), .val (.ref r10), .unset, .unset, .unset, .unset, .unset, .unset]) rfl k) ?_
        refine Goes.joinJ (T' := T10) (fr := fun z17 => (mkF m 38 #[.val (.int x0), .val (.int x1), .val (.long x2), .second, .val (.long x3), .second, .val (.int x4), .val (.ref r2), .val (.ref r10), .unset, .unset, .unset, .unset, .unset, .unset] [(.long z17)])) ?_ ?_
        · intro z17
          refine Goes.on (T' := T10) (g' := (mkF m 40 #[.val (.int x0), .val (.int x1), .val (.long x2), .second, .val (.long x3), .second, .val (.int x4), .val (.ref r2), .val (.ref r10), .val (.long z17), .second, .unset, .unset, .unset, .unset] [])) (fun _ k => XS.lstore X10.here hx rfl (hb hby at_38) rfl (l' := #[.val (.int x0), .val (.int x1), .val (.long x2), .second, .val (.long x3), .second, .val (.int x4), .val (.ref r2), .val (.ref r10), .val (.long z17), .second, .unset, .unset, .unset, .unset]) rfl k) ?_
          obtain ⟨T18, h18, X18, e18, E18, A18, D18, U18, st18⟩ := newO X10 hx hZ hown (own_w hw 37 rfl) (own_w hw 38 rfl) (own_w hw 39 rfl) rfl (g := (mkF m 40 #[.val (.int x0), .val (.int x1), .val (.long x2), .second, .val (.long x3), .second, .val (.int x4), .val (.ref r2), .val (.ref r10), .val (.long z17), .second, .unset, .unset, .unset, .unset] [])) rfl (hb hby at_40) (by decide) (by decide)
          obtain ⟨a18, g18⟩ : ∃ z, z = T10.heap.size := ⟨_, rfl⟩
          rw [← g18] at A18 D18 U18 st18
          have C19 := C11.ext E18
          have C20 := C12.ext E18
          have C21 := Q10.ext E18
          have ne22 : r2 ≠ a18 := Nat.ne_of_lt (Nat.lt_of_lt_of_le (C12.1.lt) (Nat.le_of_eq g18.symm))
          have ne23 : b2 ≠ a18 := Nat.ne_of_lt (Nat.lt_of_lt_of_le (C12.2.2.2.lt) (Nat.le_of_eq g18.symm))
          have ne24 : r10 ≠ a18 := Nat.ne_of_lt (Nat.lt_of_lt_of_le (Q10.1.lt) (Nat.le_of_eq g18.symm))
          have ne25 : b10 ≠ a18 := Nat.ne_of_lt (Nat.lt_of_lt_of_le (Q10.2.2.2.lt) (Nat.le_of_eq g18.symm))
          have Z26 : n0 ≤ h18.size := Nat.le_trans Z13 E18.1
          have Z27 : 0 ≤ h18.size := Nat.le_trans Z14 E18.1
          have RR29 := RR16.trans (CHr.ext E18 RR16.1)
          have F30 : Fld Z h18 a18 "com/example/narada/narada/ObjectAddress" "endpoint" "Ljava/lang/String;" .null := D18 (Or.inr (own_w hw 105 rfl)) (ty := (.object "java/lang/String")) (by decide)
          have F31 : Fld Z h18 a18 "com/example/narada/narada/ObjectAddress" "object" "J" (.long (0 : Int64)) := D18 (Or.inr (own_w hw 107 rfl)) (ty := .long) (by decide)
          have G18 : n0 ≤ a18 := Nat.le_trans Z13 (Nat.le_of_eq g18.symm)
          refine Goes.on (T' := T18) (g' := (mkF m 47 #[.val (.int x0), .val (.int x1), .val (.long x2), .second, .val (.long x3), .second, .val (.int x4), .val (.ref r2), .val (.ref r10), .val (.long z17), .second, .unset, .unset, .unset, .unset] [(.long x2), (.ref r2), (.ref a18), (.ref a18)])) (fun _ k => st18 _ (XS.dup X18.here hx rfl (hb hby at_43) rfl rfl (XS.aload X18.here hx rfl (hb hby at_44) rfl rfl (XS.lloadN X18.here hx rfl (hb hby at_46) rfl k)))) ?_
          refine Goes.callCW X18 hx hZ hS0 Z27 hEL RR29.1 1 rfl hown (own_w hw 40 rfl) (own_w hw 41 rfl) (own_w hw 39 rfl) (own_w hw 42 rfl) (by decide) e18 (rmOa_1 l Z a0 hw a18 r2 x2 h18 n0 Z26 A18 G18 F30 F31 hEL C19 cs SC hcs b2 kb2 (c02.toInt8.toInt32) C20 (fun q => no2 (own_b46 hc02 q)) (fun q => q) (own_b47 hc02) (own_b0 hc02)) (by decide) (by decide) (by decide) (by decide) rfl (by rw [hml]; rfl) (a := a18) (argsL := [(.ref r2), (.long x2)]) (rest := [(.ref a18)]) rfl (lenOf pd_15 rfl) rfl (by show 2 * 0 + _ ≤ _; exact Nat.le_of_eq rfl) (hb hby at_47) ?_
          intro v32 T32 L32 k32 X32 hS32 hk32 hZ32 hown32 R32 hQ32
          obtain ⟨rfl, N32q, K32, A32, B32_endpoint, B32_object⟩ := hQ32
          have N32 := Fr.app N10 N32q
          show Goes p e below _ T32 (mkF m 50 #[.val (.int x0), .val (.int x1), .val (.long x2), .second, .val (.long x3), .second, .val (.int x4), .val (.ref r2), .val (.ref r10), .val (.long z17), .second, .unset, .unset, .unset, .unset] [(.ref a18)])
          have RR32 := RR29.trans R32
          have C33 := C19.keep K32 (allS G18 all0)
          have C34 := C20.keep K32 (ninS ne22 nin0) (ninS ne23 nin0)
          have C35 := C21.keep K32 (ninS ne24 nin0) (ninS ne25 nin0)
          have Z37 : n0 ≤ T32.heap.size := Nat.le_trans Z26 K32.1
          refine Goes.on (T' := T32) (g' := (mkF m 52 #[.val (.int x0), .val (.int x1), .val (.long x2), .second, .val (.long x3), .second, .val (.int x4), .val (.ref r2), .val (.ref r10), .val (.long z17), .second, .val (.ref a18), .unset, .unset, .unset] [])) (fun _ k => XS.astore X32.here hx rfl (hb hby at_50) rfl rfl (l' := #[.val (.int x0), .val (.int x1), .val (.long x2), .second, .val (.long x3), .second, .val (.int x4), .val (.ref r2), .val (.ref r10), .val (.long z17), .second, .val (.ref a18), .unset, .unset, .unset]) rfl k) ?_
          obtain ⟨T40, h40, X40, e40, E40, A40, D40, U40, st40⟩ := newO X32 hx hZ32 hown32 (own_w hw 37 rfl) (own_w hw 38 rfl) (own_w hw 39 rfl) rfl (g := (mkF m 52 #[.val (.int x0), .val (.int x1), .val (.long x2), .second, .val (.long x3), .second, .val (.int x4), .val (.ref r2), .val (.ref r10), .val (.long z17), .second, .val (.ref a18), .unset, .unset, .unset] [])) rfl (hb hby at_52) (by decide) (by decide)
          obtain ⟨a40, g40⟩ : ∃ z, z = T32.heap.size := ⟨_, rfl⟩
          rw [← g40] at A40 D40 U40 st40
          have C41 := C33.ext E40
          have C42 := C34.ext E40
          have C43 := C35.ext E40
          have C44 := A32.ext E40
          have C45 := B32_endpoint.ext E40
          have C46 := B32_object.ext E40
          have ne47 : r2 ≠ a40 := Nat.ne_of_lt (Nat.lt_of_lt_of_le (C34.1.lt) (Nat.le_of_eq g40.symm))
          have ne48 : b2 ≠ a40 := Nat.ne_of_lt (Nat.lt_of_lt_of_le (C34.2.2.2.lt) (Nat.le_of_eq g40.symm))
          have ne49 : r10 ≠ a40 := Nat.ne_of_lt (Nat.lt_of_lt_of_le (C35.1.lt) (Nat.le_of_eq g40.symm))
          have ne50 : b10 ≠ a40 := Nat.ne_of_lt (Nat.lt_of_lt_of_le (C35.2.2.2.lt) (Nat.le_of_eq g40.symm))
          have ne51 : a18 ≠ a40 := Nat.ne_of_lt (Nat.lt_of_lt_of_le (A32).lt (Nat.le_of_eq g40.symm))
          have Z52 : n0 ≤ h40.size := Nat.le_trans Z37 E40.1
          have Z53 : k32 ≤ h40.size := Nat.le_trans hk32 E40.1
          have RR55 := RR32.trans (CHr.ext E40 RR32.1)
          have F56 : Fld Z h40 a40 "com/example/narada/narada/ObjectAddress" "endpoint" "Ljava/lang/String;" .null := D40 (Or.inr (own_w hw 105 rfl)) (ty := (.object "java/lang/String")) (by decide)
          have F57 : Fld Z h40 a40 "com/example/narada/narada/ObjectAddress" "object" "J" (.long (0 : Int64)) := D40 (Or.inr (own_w hw 107 rfl)) (ty := .long) (by decide)
          have G40 : n0 ≤ a40 := Nat.le_trans Z37 (Nat.le_of_eq g40.symm)
          refine Goes.on (T' := T40) (g' := (mkF m 60 #[.val (.int x0), .val (.int x1), .val (.long x2), .second, .val (.long x3), .second, .val (.int x4), .val (.ref r2), .val (.ref r10), .val (.long z17), .second, .val (.ref a18), .unset, .unset, .unset] [(.long z17), (.ref r10), (.ref a40), (.ref a40)])) (fun _ k => st40 _ (XS.dup X40.here hx rfl (hb hby at_55) rfl rfl (XS.aload X40.here hx rfl (hb hby at_56) rfl rfl (XS.lload X40.here hx rfl (hb hby at_58) rfl k)))) ?_
          refine Goes.callCW X40 hx hZ32 hS32 Z53 hEL RR55.1 1 rfl hown32 (own_w hw 40 rfl) (own_w hw 41 rfl) (own_w hw 39 rfl) (own_w hw 42 rfl) (by decide) e40 (rmOa_1 l Z a0 hw a40 r10 z17 h40 n0 Z52 A40 G40 F56 F57 hEL C41 cs SC hcs b10 kb10 (c010.toInt8.toInt32) C43 (fun q => no10 (own_b46 hc010 q)) (fun q => q) (own_b47 hc010) (own_b0 hc010)) (by decide) (by decide) (by decide) (by decide) rfl (by rw [hml]; rfl) (a := a40) (argsL := [(.ref r10), (.long z17)]) (rest := [(.ref a40)]) rfl (lenOf pd_15 rfl) rfl (by show 2 * 0 + _ ≤ _; exact Nat.le_of_eq rfl) (hb hby at_60) ?_
          intro v58 T58 L58 k58 X58 hS58 hk58 hZ58 hown58 R58 hQ58
          obtain ⟨rfl, N58q, K58, A58, B58_endpoint, B58_object⟩ := hQ58
          have N58 := Fr.app N32 N58q
          show Goes p e below _ T58 (mkF m 63 #[.val (.int x0), .val (.int x1), .val (.long x2), .second, .val (.long x3), .second, .val (.int x4), .val (.ref r2), .val (.ref r10), .val (.long z17), .second, .val (.ref a18), .unset, .unset, .unset] [(.ref a40)])
          have RR58 := RR55.trans R58
          have C59 := C41.keep K58 (allS G40 all0)
          have C60 := C42.keep K58 (ninS ne47 nin0) (ninS ne48 nin0)
          have C61 := C43.keep K58 (ninS ne49 nin0) (ninS ne50 nin0)
          have C62 := C44.keep K58
          have C63 := C45.keep K58 (ninS ne51 nin0)
          have C64 := C46.keep K58 (ninS ne51 nin0)
          have Z66 : n0 ≤ T58.heap.size := Nat.le_trans Z52 K58.1
          refine Goes.on (T' := T58) (g' := (mkF m 75 #[.val (.int x0), .val (.int x1), .val (.long x2), .second, .val (.long x3), .second, .val (.int x4), .val (.ref r2), .val (.ref r10), .val (.long z17), .second, .val (.ref a18), .val (.ref a40), .val (.int ((x4.toUInt32 >>> ((2 : Int32) &&& 31).toUInt32).toInt32 &&& (3 : Int32))), .unset] [(.int ((x4.toUInt32 >>> ((2 : Int32) &&& 31).toUInt32).toInt32 &&& (3 : Int32)))])) (fun _ k => XS.astore X58.here hx rfl (hb hby at_63) rfl rfl (l' := #[.val (.int x0), .val (.int x1), .val (.long x2), .second, .val (.long x3), .second, .val (.int x4), .val (.ref r2), .val (.ref r10), .val (.long z17), .second, .val (.ref a18), .val (.ref a40), .unset, .unset]) rfl (XS.iload X58.here hx rfl (hb hby at_65) rfl (XS.iconst X58.here hx rfl (hb hby at_67) (XS.iushr X58.here hx rfl (hb hby at_68) rfl (XS.iconst X58.here hx rfl (hb hby at_69) (XS.iand X58.here hx rfl (hb hby at_70) rfl (XS.istore X58.here hx rfl (hb hby at_71) rfl (l' := #[.val (.int x0), .val (.int x1), .val (.long x2), .second, .val (.long x3), .second, .val (.int x4), .val (.ref r2), .val (.ref r10), .val (.long z17), .second, .val (.ref a18), .val (.ref a40), .val (.int ((x4.toUInt32 >>> ((2 : Int32) &&& 31).toUInt32).toInt32 &&& (3 : Int32))), .unset]) rfl (XS.iload X58.here hx rfl (hb hby at_73) rfl k)))))))) ?_
          by_cases hc69 : ((x4.toUInt32 >>> ((2 : Int32) &&& 31).toUInt32).toInt32 &&& (3 : Int32)) = (0 : Int32)
          · refine Goes.on (T' := T58) (g' := (mkF m 81 #[.val (.int x0), .val (.int x1), .val (.long x2), .second, .val (.long x3), .second, .val (.int x4), .val (.ref r2), .val (.ref r10), .val (.long z17), .second, .val (.ref a18), .val (.ref a40), .val (.int ((x4.toUInt32 >>> ((2 : Int32) &&& 31).toUInt32).toInt32 &&& (3 : Int32))), .unset] [.null, (.ref a18)])) (fun _ k => XS.ifNo X58.here hx rfl (hb hby at_75) rfl (XT.i0_ne_f hc69) (XS.aload X58.here hx rfl (hb hby at_78) rfl rfl (XS.aconstNull X58.here hx rfl (hb hby at_80) k))) ?_
            refine Goes.callV X58 hx hZ58 0 hown58 (own_w hw 108 rfl) (own_w hw 109 rfl) (notFace_of_selects (args := #[]) (mvT hZ58 (own_w hw 111 rfl))) (own_w hw 111 rfl) (own_w hw 110 rfl) (own_w hw 39 rfl) (own_w hw 112 rfl) (by decide) rfl C62 (rmOeN l Z a0 hw a18 T58.heap n0 Z66) (by decide) (by decide) (by decide) (by decide) rfl (by rw [hml]; rfl) (argsL := [.null]) (rest := []) rfl (lenOf pd_7 rfl) rfl (by show 2 * 0 + _ ≤ _; exact Nat.le_of_eq rfl) (hb hby at_81) ?_
            intro v70 T70 L70 X70 hQ70
            obtain ⟨rfl, N70q, e70⟩ := hQ70
            have N70 := Fr.app N58 N70q
            show Goes p e below _ T70 (mkF m 84 #[.val (.int x0), .val (.int x1), .val (.long x2), .second, .val (.long x3), .second, .val (.int x4), .val (.ref r2), .val (.ref r10), .val (.long z17), .second, .val (.ref a18), .val (.ref a40), .val (.int ((x4.toUInt32 >>> ((2 : Int32) &&& 31).toUInt32).toInt32 &&& (3 : Int32))), .unset] [(.int (0 : Int32))])
            refine Goes.on (T' := T70) (g' := (mkF m 92 #[.val (.int x0), .val (.int x1), .val (.long x2), .second, .val (.long x3), .second, .val (.int x4), .val (.ref r2), .val (.ref r10), .val (.long z17), .second, .val (.ref a18), .val (.ref a40), .val (.int ((x4.toUInt32 >>> ((2 : Int32) &&& 31).toUInt32).toInt32 &&& (3 : Int32))), .unset] [(.int (1 : Int32))])) (fun _ k => XS.ifNo X70.here hx rfl (hb hby at_84) rfl (XT.i0_ne_f (by decide)) (XS.iconst X70.here hx rfl (hb hby at_87) (XS.goto X70.here hx rfl (pc0 := 88) (pc' := 92) rfl (hb hby at_88) (by decide) (by decide) k))) ?_
            exact Goes.retBW X70 hS58 (by rw [e70]; exact hk58) hZ58 hEL (by rw [e70]; exact RR58) hx hlk hret (Or.inr rfl) (hb hby at_92) (by decide) (by decide) ⟨rfl, N70⟩
          · refine Goes.on (T' := T58) (g' := (mkF m 96 #[.val (.int x0), .val (.int x1), .val (.long x2), .second, .val (.long x3), .second, .val (.int x4), .val (.ref r2), .val (.ref r10), .val (.long z17), .second, .val (.ref a18), .val (.ref a40), .val (.int ((x4.toUInt32 >>> ((2 : Int32) &&& 31).toUInt32).toInt32 &&& (3 : Int32))), .unset] [(.int (1 : Int32)), (.int ((x4.toUInt32 >>> ((2 : Int32) &&& 31).toUInt32).toInt32 &&& (3 : Int32)))])) (fun _ k => XS.ifYes X58.here hx rfl (pc0 := 75) (pc' := 93) rfl (hb hby at_75) rfl (XT.i0_ne_t hc69) (by decide) (by decide) (XS.iload X58.here hx rfl (hb hby at_93) rfl (XS.iconst X58.here hx rfl (hb hby at_95) k))) ?_
            by_cases hc71 : ((x4.toUInt32 >>> ((2 : Int32) &&& 31).toUInt32).toInt32 &&& (3 : Int32)) = (1 : Int32)
            · refine Goes.on (T' := T58) (g' := (mkF m 107 #[.val (.int x0), .val (.int x1), .val (.long x2), .second, .val (.long x3), .second, .val (.int x4), .val (.ref r2), .val (.ref r10), .val (.long z17), .second, .val (.ref a18), .val (.ref a40), .val (.int ((x4.toUInt32 >>> ((2 : Int32) &&& 31).toUInt32).toInt32 &&& (3 : Int32))), .val (.ref r10)] [(.ref r10), (.ref a18)])) (fun _ k => XS.icmpNo X58.here hx rfl (hb hby at_96) rfl (XT.ii_ne_f hc71) (XS.aload X58.here hx rfl (hb hby at_99) rfl rfl (XS.astore X58.here hx rfl (hb hby at_101) rfl rfl (l' := #[.val (.int x0), .val (.int x1), .val (.long x2), .second, .val (.long x3), .second, .val (.int x4), .val (.ref r2), .val (.ref r10), .val (.long z17), .second, .val (.ref a18), .val (.ref a40), .val (.int ((x4.toUInt32 >>> ((2 : Int32) &&& 31).toUInt32).toInt32 &&& (3 : Int32))), .val (.ref r10)]) rfl (XS.aload X58.here hx rfl (hb hby at_103) rfl rfl (XS.aload X58.here hx rfl (hb hby at_105) rfl rfl k))))) ?_
              refine Goes.callV X58 hx hZ58 0 hown58 (own_w hw 108 rfl) (own_w hw 109 rfl) (notFace_of_selects (args := #[]) (mvT hZ58 (own_w hw 111 rfl))) (own_w hw 111 rfl) (own_w hw 110 rfl) (own_w hw 39 rfl) (own_w hw 112 rfl) (by decide) rfl C62 (rmOeS l Z a0 hw a18 r10 T58.heap n0 Z66 (C61).1) (by decide) (by decide) (by decide) (by decide) rfl (by rw [hml]; rfl) (argsL := [(.ref r10)]) (rest := []) rfl (lenOf pd_7 rfl) rfl (by show 2 * 0 + _ ≤ _; exact Nat.le_of_eq rfl) (hb hby at_107) ?_
              intro v72 T72 L72 X72 hQ72
              obtain ⟨rfl, N72q, e72⟩ := hQ72
              have N72 := Fr.app N58 N72q
              show Goes p e below _ T72 (mkF m 110 #[.val (.int x0), .val (.int x1), .val (.long x2), .second, .val (.long x3), .second, .val (.int x4), .val (.ref r2), .val (.ref r10), .val (.long z17), .second, .val (.ref a18), .val (.ref a40), .val (.int ((x4.toUInt32 >>> ((2 : Int32) &&& 31).toUInt32).toInt32 &&& (3 : Int32))), .val (.ref r10)] [(.int (0 : Int32))])
              refine Goes.on (T' := T72) (g' := (mkF m 118 #[.val (.int x0), .val (.int x1), .val (.long x2), .second, .val (.long x3), .second, .val (.int x4), .val (.ref r2), .val (.ref r10), .val (.long z17), .second, .val (.ref a18), .val (.ref a40), .val (.int ((x4.toUInt32 >>> ((2 : Int32) &&& 31).toUInt32).toInt32 &&& (3 : Int32))), .val (.ref r10)] [(.int (1 : Int32))])) (fun _ k => XS.ifNo X72.here hx rfl (hb hby at_110) rfl (XT.i0_ne_f (by decide)) (XS.iconst X72.here hx rfl (hb hby at_113) (XS.goto X72.here hx rfl (pc0 := 114) (pc' := 118) rfl (hb hby at_114) (by decide) (by decide) k))) ?_
              exact Goes.retBW X72 hS58 (by rw [e72]; exact hk58) hZ58 hEL (by rw [e72]; exact RR58) hx hlk hret (Or.inr rfl) (hb hby at_118) (by decide) (by decide) ⟨rfl, N72⟩
            · refine Goes.on (T' := T58) (g' := (mkF m 122 #[.val (.int x0), .val (.int x1), .val (.long x2), .second, .val (.long x3), .second, .val (.int x4), .val (.ref r2), .val (.ref r10), .val (.long z17), .second, .val (.ref a18), .val (.ref a40), .val (.int ((x4.toUInt32 >>> ((2 : Int32) &&& 31).toUInt32).toInt32 &&& (3 : Int32))), .unset] [(.int (2 : Int32)), (.int ((x4.toUInt32 >>> ((2 : Int32) &&& 31).toUInt32).toInt32 &&& (3 : Int32)))])) (fun _ k => XS.icmpYes X58.here hx rfl (pc0 := 96) (pc' := 119) rfl (hb hby at_96) rfl (XT.ii_ne_t hc71) (by decide) (by decide) (XS.iload X58.here hx rfl (hb hby at_119) rfl (XS.iconst X58.here hx rfl (hb hby at_121) k))) ?_
              by_cases hc73 : ((x4.toUInt32 >>> ((2 : Int32) &&& 31).toUInt32).toInt32 &&& (3 : Int32)) = (2 : Int32)
              · refine Goes.on (T' := T58) (g' := (mkF m 129 #[.val (.int x0), .val (.int x1), .val (.long x2), .second, .val (.long x3), .second, .val (.int x4), .val (.ref r2), .val (.ref r10), .val (.long z17), .second, .val (.ref a18), .val (.ref a40), .val (.int ((x4.toUInt32 >>> ((2 : Int32) &&& 31).toUInt32).toInt32 &&& (3 : Int32))), .unset] [(.ref a18), (.ref a18)])) (fun _ k => XS.icmpNo X58.here hx rfl (hb hby at_122) rfl (XT.ii_ne_f hc73) (XS.aload X58.here hx rfl (hb hby at_125) rfl rfl (XS.aload X58.here hx rfl (hb hby at_127) rfl rfl k))) ?_
                refine Goes.callV X58 hx hZ58 0 hown58 (own_w hw 108 rfl) (own_w hw 109 rfl) (notFace_of_selects (args := #[]) (mvT hZ58 (own_w hw 111 rfl))) (own_w hw 111 rfl) (own_w hw 110 rfl) (own_w hw 39 rfl) (own_w hw 112 rfl) (by decide) rfl C62 (rmOe11 l Z a0 hw a18 a18 (c02.toInt8.toInt32) (c02.toInt8.toInt32) T58.heap n0 Z66 C59 cs SC hcs r2 r2 b2 b2 kb2 kb2 x2 x2 C62 C63 C64 C62 C63 C64 C60 C60 (1 : Int32) (Or.inr rfl) (own_T ⟨rfl, rfl⟩)) (by decide) (by decide) (by decide) (by decide) rfl (by rw [hml]; rfl) (argsL := [(.ref a18)]) (rest := []) rfl (lenOf pd_7 rfl) rfl (by show 2 * 0 + _ ≤ _; exact Nat.le_of_eq rfl) (hb hby at_129) ?_
                intro v74 T74 L74 X74 hQ74
                obtain ⟨rfl, N74q, e74⟩ := hQ74
                have N74 := Fr.app N58 N74q
                show Goes p e below _ T74 (mkF m 132 #[.val (.int x0), .val (.int x1), .val (.long x2), .second, .val (.long x3), .second, .val (.int x4), .val (.ref r2), .val (.ref r10), .val (.long z17), .second, .val (.ref a18), .val (.ref a40), .val (.int ((x4.toUInt32 >>> ((2 : Int32) &&& 31).toUInt32).toInt32 &&& (3 : Int32))), .unset] [(.int (1 : Int32))])
                exact Goes.retBW X74 hS58 (by rw [e74]; exact hk58) hZ58 hEL (by rw [e74]; exact RR58) hx hlk hret (Or.inr rfl) (hb hby at_132) (by decide) (by decide) ⟨rfl, N74⟩
              · refine Goes.on (T' := T58) (g' := (mkF m 137 #[.val (.int x0), .val (.int x1), .val (.long x2), .second, .val (.long x3), .second, .val (.int x4), .val (.ref r2), .val (.ref r10), .val (.long z17), .second, .val (.ref a18), .val (.ref a40), .val (.int ((x4.toUInt32 >>> ((2 : Int32) &&& 31).toUInt32).toInt32 &&& (3 : Int32))), .unset] [(.ref r10), (.ref r2)])) (fun _ k => XS.icmpYes X58.here hx rfl (pc0 := 122) (pc' := 133) rfl (hb hby at_122) rfl (XT.ii_ne_t hc73) (by decide) (by decide) (XS.aload X58.here hx rfl (hb hby at_133) rfl rfl (XS.aload X58.here hx rfl (hb hby at_135) rfl rfl k))) ?_
                by_cases hc75 : c02 = c010
                · refine Goes.callS X58 hx hZ58 0 hown58 (own_w hw 116 rfl) (own_w hw 117 rfl) (own_w hw 2 rfl) (own_w hw 118 rfl) (by decide) rfl (rmSs11 l Z a0 hw r2 r10 c02 c010 T58.heap n0 Z66 C59 cs SC hcs sf SF hsf b2 b10 kb2 kb10 C60 C61 hc02 hc010 (1 : Int32) (Or.inr rfl) (own_T hc75)) (by decide) (by decide) (by decide) (by decide) rfl (by rw [hml]; rfl) (argsL := [(.ref r2), (.ref r10)]) (rest := []) rfl (lenOf pd_16 rfl) rfl (by show 2 * 0 + _ ≤ _; exact Nat.le_of_eq rfl) (hb hby at_137) ?_
                  intro v76 T76 L76 X76 hQ76
                  obtain ⟨rfl, N76q, e76⟩ := hQ76
                  have N76 := Fr.app N58 N76q
                  show Goes p e below _ T76 (mkF m 140 #[.val (.int x0), .val (.int x1), .val (.long x2), .second, .val (.long x3), .second, .val (.int x4), .val (.ref r2), .val (.ref r10), .val (.long z17), .second, .val (.ref a18), .val (.ref a40), .val (.int ((x4.toUInt32 >>> ((2 : Int32) &&& 31).toUInt32).toInt32 &&& (3 : Int32))), .unset] [(.int (1 : Int32))])
                  refine Goes.on (T' := T76) (g' := (mkF m 147 #[.val (.int x0), .val (.int x1), .val (.long x2), .second, .val (.long x3), .second, .val (.int x4), .val (.ref r2), .val (.ref r10), .val (.long z17), .second, .val (.ref a18), .val (.ref a40), .val (.int ((x4.toUInt32 >>> ((2 : Int32) &&& 31).toUInt32).toInt32 &&& (3 : Int32))), .unset] [(.int (XT.cmpL x2 z17))])) (fun _ k => XS.ifNo X76.here hx rfl (hb hby at_140) rfl (XT.i0_eq_f (by decide)) (XS.lloadN X76.here hx rfl (hb hby at_143) rfl (XS.lload X76.here hx rfl (hb hby at_144) rfl (XT.lcmp X76.here hx rfl (hb hby at_146) rfl k)))) ?_
                  by_cases hc77 : x2 = z17
                  · refine Goes.on (T' := T76) (g' := (mkF m 161 #[.val (.int x0), .val (.int x1), .val (.long x2), .second, .val (.long x3), .second, .val (.int x4), .val (.ref r2), .val (.ref r10), .val (.long z17), .second, .val (.ref a18), .val (.ref a40), .val (.int ((x4.toUInt32 >>> ((2 : Int32) &&& 31).toUInt32).toInt32 &&& (3 : Int32))), .val (.int (1 : Int32))] [(.ref a40), (.ref a18)])) (fun _ k => XS.ifNo X76.here hx rfl (hb hby at_147) rfl (XT.ll_ne_f hc77) (XS.iconst X76.here hx rfl (hb hby at_150) (XS.goto X76.here hx rfl (pc0 := 151) (pc' := 155) rfl (hb hby at_151) (by decide) (by decide) (XS.istore X76.here hx rfl (hb hby at_155) rfl (l' := #[.val (.int x0), .val (.int x1), .val (.long x2), .second, .val (.long x3), .second, .val (.int x4), .val (.ref r2), .val (.ref r10), .val (.long z17), .second, .val (.ref a18), .val (.ref a40), .val (.int ((x4.toUInt32 >>> ((2 : Int32) &&& 31).toUInt32).toInt32 &&& (3 : Int32))), .val (.int (1 : Int32))]) rfl (XS.aload X76.here hx rfl (hb hby at_157) rfl rfl (XS.aload X76.here hx rfl (hb hby at_159) rfl rfl k)))))) ?_
                    refine Goes.callV X76 hx hZ58 0 hown58 (own_w hw 108 rfl) (own_w hw 109 rfl) (notFace_of_selects (args := #[]) (mvT hZ58 (own_w hw 111 rfl))) (own_w hw 111 rfl) (own_w hw 110 rfl) (own_w hw 39 rfl) (own_w hw 112 rfl) (by decide) e76 C62 (rmOe11 l Z a0 hw a18 a40 (c02.toInt8.toInt32) (c010.toInt8.toInt32) T58.heap n0 Z66 C59 cs SC hcs r2 r10 b2 b10 kb2 kb10 x2 z17 C62 C63 C64 A58 B58_endpoint B58_object C60 C61 (1 : Int32) (Or.inr rfl) (own_T ⟨congrArg (fun c => c.toInt8.toInt32) (hc75).symm, (hc77).symm⟩)) (by decide) (by decide) (by decide) (by decide) rfl (by rw [hml]; rfl) (argsL := [(.ref a40)]) (rest := []) rfl (lenOf pd_7 rfl) rfl (by show 2 * 0 + _ ≤ _; exact Nat.le_of_eq rfl) (hb hby at_161) ?_
                    intro v78 T78 L78 X78 hQ78
                    obtain ⟨rfl, N78q, e78⟩ := hQ78
                    have N78 := Fr.app N76 N78q
                    show Goes p e below _ T78 (mkF m 164 #[.val (.int x0), .val (.int x1), .val (.long x2), .second, .val (.long x3), .second, .val (.int x4), .val (.ref r2), .val (.ref r10), .val (.long z17), .second, .val (.ref a18), .val (.ref a40), .val (.int ((x4.toUInt32 >>> ((2 : Int32) &&& 31).toUInt32).toInt32 &&& (3 : Int32))), .val (.int (1 : Int32))] [(.int (1 : Int32))])
                    refine Goes.on (T' := T78) (g' := (mkF m 173 #[.val (.int x0), .val (.int x1), .val (.long x2), .second, .val (.long x3), .second, .val (.int x4), .val (.ref r2), .val (.ref r10), .val (.long z17), .second, .val (.ref a18), .val (.ref a40), .val (.int ((x4.toUInt32 >>> ((2 : Int32) &&& 31).toUInt32).toInt32 &&& (3 : Int32))), .val (.int (1 : Int32))] [(.ref a18), (.ref a40)])) (fun _ k => XS.iload X78.here hx rfl (hb hby at_164) rfl (XS.icmpNo X78.here hx rfl (hb hby at_166) rfl (XT.ii_ne_f (by decide)) (XS.aload X78.here hx rfl (hb hby at_169) rfl rfl (XS.aload X78.here hx rfl (hb hby at_171) rfl rfl k)))) ?_
                    refine Goes.callV X78 hx hZ58 0 hown58 (own_w hw 108 rfl) (own_w hw 109 rfl) (notFace_of_selects (args := #[]) (mvT hZ58 (own_w hw 111 rfl))) (own_w hw 111 rfl) (own_w hw 110 rfl) (own_w hw 39 rfl) (own_w hw 112 rfl) (by decide) e78 A58 (rmOe11 l Z a0 hw a40 a18 (c010.toInt8.toInt32) (c02.toInt8.toInt32) T58.heap n0 Z66 C59 cs SC hcs r10 r2 b10 b2 kb10 kb2 z17 x2 A58 B58_endpoint B58_object C62 C63 C64 C61 C60 (1 : Int32) (Or.inr rfl) (own_T ⟨congrArg (fun c => c.toInt8.toInt32) (hc75), (hc77)⟩)) (by decide) (by decide) (by decide) (by decide) rfl (by rw [hml]; rfl) (argsL := [(.ref a18)]) (rest := []) rfl (lenOf pd_7 rfl) rfl (by show 2 * 0 + _ ≤ _; exact Nat.le_of_eq rfl) (hb hby at_173) ?_
                    intro v79 T79 L79 X79 hQ79
                    obtain ⟨rfl, N79q, e79⟩ := hQ79
                    have N79 := Fr.app N78 N79q
                    show Goes p e below _ T79 (mkF m 176 #[.val (.int x0), .val (.int x1), .val (.long x2), .second, .val (.long x3), .second, .val (.int x4), .val (.ref r2), .val (.ref r10), .val (.long z17), .second, .val (.ref a18), .val (.ref a40), .val (.int ((x4.toUInt32 >>> ((2 : Int32) &&& 31).toUInt32).toInt32 &&& (3 : Int32))), .val (.int (1 : Int32))] [(.int (1 : Int32))])
                    refine Goes.on (T' := T79) (g' := (mkF m 186 #[.val (.int x0), .val (.int x1), .val (.long x2), .second, .val (.long x3), .second, .val (.int x4), .val (.ref r2), .val (.ref r10), .val (.long z17), .second, .val (.ref a18), .val (.ref a40), .val (.int ((x4.toUInt32 >>> ((2 : Int32) &&& 31).toUInt32).toInt32 &&& (3 : Int32))), .val (.int (1 : Int32))] [(.int (1 : Int32))])) (fun _ k => XS.iload X79.here hx rfl (hb hby at_176) rfl (XS.icmpNo X79.here hx rfl (hb hby at_178) rfl (XT.ii_ne_f (by decide)) (XS.iconst X79.here hx rfl (hb hby at_181) (XS.goto X79.here hx rfl (pc0 := 182) (pc' := 186) rfl (hb hby at_182) (by decide) (by decide) k)))) ?_
                    exact Goes.retBW X79 hS58 (by rw [e79]; exact hk58) hZ58 hEL (by rw [e79]; exact RR58) hx hlk hret (Or.inr rfl) (hb hby at_186) (by decide) (by decide) ⟨rfl, N79⟩
                  · refine Goes.on (T' := T76) (g' := (mkF m 161 #[.val (.int x0), .val (.int x1), .val (.long x2), .second, .val (.long x3), .second, .val (.int x4), .val (.ref r2), .val (.ref r10), .val (.long z17), .second, .val (.ref a18), .val (.ref a40), .val (.int ((x4.toUInt32 >>> ((2 : Int32) &&& 31).toUInt32).toInt32 &&& (3 : Int32))), .val (.int (0 : Int32))] [(.ref a40), (.ref a18)])) (fun _ k => XS.ifYes X76.here hx rfl (pc0 := 147) (pc' := 154) rfl (hb hby at_147) rfl (XT.ll_ne_t hc77) (by decide) (by decide) (XS.iconst X76.here hx rfl (hb hby at_154) (XS.istore X76.here hx rfl (hb hby at_155) rfl (l' := #[.val (.int x0), .val (.int x1), .val (.long x2), .second, .val (.long x3), .second, .val (.int x4), .val (.ref r2), .val (.ref r10), .val (.long z17), .second, .val (.ref a18), .val (.ref a40), .val (.int ((x4.toUInt32 >>> ((2 : Int32) &&& 31).toUInt32).toInt32 &&& (3 : Int32))), .val (.int (0 : Int32))]) rfl (XS.aload X76.here hx rfl (hb hby at_157) rfl rfl (XS.aload X76.here hx rfl (hb hby at_159) rfl rfl k))))) ?_
                    refine Goes.callV X76 hx hZ58 0 hown58 (own_w hw 108 rfl) (own_w hw 109 rfl) (notFace_of_selects (args := #[]) (mvT hZ58 (own_w hw 111 rfl))) (own_w hw 111 rfl) (own_w hw 110 rfl) (own_w hw 39 rfl) (own_w hw 112 rfl) (by decide) e76 C62 (rmOe11 l Z a0 hw a18 a40 (c02.toInt8.toInt32) (c010.toInt8.toInt32) T58.heap n0 Z66 C59 cs SC hcs r2 r10 b2 b10 kb2 kb10 x2 z17 C62 C63 C64 A58 B58_endpoint B58_object C60 C61 (0 : Int32) (Or.inl rfl) (own_F (fun q => hc77 (q.2.symm)))) (by decide) (by decide) (by decide) (by decide) rfl (by rw [hml]; rfl) (argsL := [(.ref a40)]) (rest := []) rfl (lenOf pd_7 rfl) rfl (by show 2 * 0 + _ ≤ _; exact Nat.le_of_eq rfl) (hb hby at_161) ?_
                    intro v80 T80 L80 X80 hQ80
                    obtain ⟨rfl, N80q, e80⟩ := hQ80
                    have N80 := Fr.app N76 N80q
                    show Goes p e below _ T80 (mkF m 164 #[.val (.int x0), .val (.int x1), .val (.long x2), .second, .val (.long x3), .second, .val (.int x4), .val (.ref r2), .val (.ref r10), .val (.long z17), .second, .val (.ref a18), .val (.ref a40), .val (.int ((x4.toUInt32 >>> ((2 : Int32) &&& 31).toUInt32).toInt32 &&& (3 : Int32))), .val (.int (0 : Int32))] [(.int (0 : Int32))])
                    refine Goes.on (T' := T80) (g' := (mkF m 173 #[.val (.int x0), .val (.int x1), .val (.long x2), .second, .val (.long x3), .second, .val (.int x4), .val (.ref r2), .val (.ref r10), .val (.long z17), .second, .val (.ref a18), .val (.ref a40), .val (.int ((x4.toUInt32 >>> ((2 : Int32) &&& 31).toUInt32).toInt32 &&& (3 : Int32))), .val (.int (0 : Int32))] [(.ref a18), (.ref a40)])) (fun _ k => XS.iload X80.here hx rfl (hb hby at_164) rfl (XS.icmpNo X80.here hx rfl (hb hby at_166) rfl (XT.ii_ne_f (by decide)) (XS.aload X80.here hx rfl (hb hby at_169) rfl rfl (XS.aload X80.here hx rfl (hb hby at_171) rfl rfl k)))) ?_
                    refine Goes.callV X80 hx hZ58 0 hown58 (own_w hw 108 rfl) (own_w hw 109 rfl) (notFace_of_selects (args := #[]) (mvT hZ58 (own_w hw 111 rfl))) (own_w hw 111 rfl) (own_w hw 110 rfl) (own_w hw 39 rfl) (own_w hw 112 rfl) (by decide) e80 A58 (rmOe11 l Z a0 hw a40 a18 (c010.toInt8.toInt32) (c02.toInt8.toInt32) T58.heap n0 Z66 C59 cs SC hcs r10 r2 b10 b2 kb10 kb2 z17 x2 A58 B58_endpoint B58_object C62 C63 C64 C61 C60 (0 : Int32) (Or.inl rfl) (own_F (fun q => hc77 (q.2)))) (by decide) (by decide) (by decide) (by decide) rfl (by rw [hml]; rfl) (argsL := [(.ref a18)]) (rest := []) rfl (lenOf pd_7 rfl) rfl (by show 2 * 0 + _ ≤ _; exact Nat.le_of_eq rfl) (hb hby at_173) ?_
                    intro v81 T81 L81 X81 hQ81
                    obtain ⟨rfl, N81q, e81⟩ := hQ81
                    have N81 := Fr.app N80 N81q
                    show Goes p e below _ T81 (mkF m 176 #[.val (.int x0), .val (.int x1), .val (.long x2), .second, .val (.long x3), .second, .val (.int x4), .val (.ref r2), .val (.ref r10), .val (.long z17), .second, .val (.ref a18), .val (.ref a40), .val (.int ((x4.toUInt32 >>> ((2 : Int32) &&& 31).toUInt32).toInt32 &&& (3 : Int32))), .val (.int (0 : Int32))] [(.int (0 : Int32))])
                    refine Goes.on (T' := T81) (g' := (mkF m 186 #[.val (.int x0), .val (.int x1), .val (.long x2), .second, .val (.long x3), .second, .val (.int x4), .val (.ref r2), .val (.ref r10), .val (.long z17), .second, .val (.ref a18), .val (.ref a40), .val (.int ((x4.toUInt32 >>> ((2 : Int32) &&& 31).toUInt32).toInt32 &&& (3 : Int32))), .val (.int (0 : Int32))] [(.int (1 : Int32))])) (fun _ k => XS.iload X81.here hx rfl (hb hby at_176) rfl (XS.icmpNo X81.here hx rfl (hb hby at_178) rfl (XT.ii_ne_f (by decide)) (XS.iconst X81.here hx rfl (hb hby at_181) (XS.goto X81.here hx rfl (pc0 := 182) (pc' := 186) rfl (hb hby at_182) (by decide) (by decide) k)))) ?_
                    exact Goes.retBW X81 hS58 (by rw [e81]; exact hk58) hZ58 hEL (by rw [e81]; exact RR58) hx hlk hret (Or.inr rfl) (hb hby at_186) (by decide) (by decide) ⟨rfl, N81⟩
                · refine Goes.callS X58 hx hZ58 0 hown58 (own_w hw 116 rfl) (own_w hw 117 rfl) (own_w hw 2 rfl) (own_w hw 118 rfl) (by decide) rfl (rmSs11 l Z a0 hw r2 r10 c02 c010 T58.heap n0 Z66 C59 cs SC hcs sf SF hsf b2 b10 kb2 kb10 C60 C61 hc02 hc010 (0 : Int32) (Or.inl rfl) (own_F hc75)) (by decide) (by decide) (by decide) (by decide) rfl (by rw [hml]; rfl) (argsL := [(.ref r2), (.ref r10)]) (rest := []) rfl (lenOf pd_16 rfl) rfl (by show 2 * 0 + _ ≤ _; exact Nat.le_of_eq rfl) (hb hby at_137) ?_
                  intro v82 T82 L82 X82 hQ82
                  obtain ⟨rfl, N82q, e82⟩ := hQ82
                  have N82 := Fr.app N58 N82q
                  show Goes p e below _ T82 (mkF m 140 #[.val (.int x0), .val (.int x1), .val (.long x2), .second, .val (.long x3), .second, .val (.int x4), .val (.ref r2), .val (.ref r10), .val (.long z17), .second, .val (.ref a18), .val (.ref a40), .val (.int ((x4.toUInt32 >>> ((2 : Int32) &&& 31).toUInt32).toInt32 &&& (3 : Int32))), .unset] [(.int (0 : Int32))])
                  refine Goes.on (T' := T82) (g' := (mkF m 161 #[.val (.int x0), .val (.int x1), .val (.long x2), .second, .val (.long x3), .second, .val (.int x4), .val (.ref r2), .val (.ref r10), .val (.long z17), .second, .val (.ref a18), .val (.ref a40), .val (.int ((x4.toUInt32 >>> ((2 : Int32) &&& 31).toUInt32).toInt32 &&& (3 : Int32))), .val (.int (0 : Int32))] [(.ref a40), (.ref a18)])) (fun _ k => XS.ifYes X82.here hx rfl (pc0 := 140) (pc' := 154) rfl (hb hby at_140) rfl (XT.i0_eq_t (by decide)) (by decide) (by decide) (XS.iconst X82.here hx rfl (hb hby at_154) (XS.istore X82.here hx rfl (hb hby at_155) rfl (l' := #[.val (.int x0), .val (.int x1), .val (.long x2), .second, .val (.long x3), .second, .val (.int x4), .val (.ref r2), .val (.ref r10), .val (.long z17), .second, .val (.ref a18), .val (.ref a40), .val (.int ((x4.toUInt32 >>> ((2 : Int32) &&& 31).toUInt32).toInt32 &&& (3 : Int32))), .val (.int (0 : Int32))]) rfl (XS.aload X82.here hx rfl (hb hby at_157) rfl rfl (XS.aload X82.here hx rfl (hb hby at_159) rfl rfl k))))) ?_
                  refine Goes.callV X82 hx hZ58 0 hown58 (own_w hw 108 rfl) (own_w hw 109 rfl) (notFace_of_selects (args := #[]) (mvT hZ58 (own_w hw 111 rfl))) (own_w hw 111 rfl) (own_w hw 110 rfl) (own_w hw 39 rfl) (own_w hw 112 rfl) (by decide) e82 C62 (rmOe11 l Z a0 hw a18 a40 (c02.toInt8.toInt32) (c010.toInt8.toInt32) T58.heap n0 Z66 C59 cs SC hcs r2 r10 b2 b10 kb2 kb10 x2 z17 C62 C63 C64 A58 B58_endpoint B58_object C60 C61 (0 : Int32) (Or.inl rfl) (own_F (fun q => hc75 ((own_inj hc010.2.1 hc02.2.1 q.1).symm)))) (by decide) (by decide) (by decide) (by decide) rfl (by rw [hml]; rfl) (argsL := [(.ref a40)]) (rest := []) rfl (lenOf pd_7 rfl) rfl (by show 2 * 0 + _ ≤ _; exact Nat.le_of_eq rfl) (hb hby at_161) ?_
                  intro v83 T83 L83 X83 hQ83
                  obtain ⟨rfl, N83q, e83⟩ := hQ83
                  have N83 := Fr.app N82 N83q
                  show Goes p e below _ T83 (mkF m 164 #[.val (.int x0), .val (.int x1), .val (.long x2), .second, .val (.long x3), .second, .val (.int x4), .val (.ref r2), .val (.ref r10), .val (.long z17), .second, .val (.ref a18), .val (.ref a40), .val (.int ((x4.toUInt32 >>> ((2 : Int32) &&& 31).toUInt32).toInt32 &&& (3 : Int32))), .val (.int (0 : Int32))] [(.int (0 : Int32))])
                  refine Goes.on (T' := T83) (g' := (mkF m 173 #[.val (.int x0), .val (.int x1), .val (.long x2), .second, .val (.long x3), .second, .val (.int x4), .val (.ref r2), .val (.ref r10), .val (.long z17), .second, .val (.ref a18), .val (.ref a40), .val (.int ((x4.toUInt32 >>> ((2 : Int32) &&& 31).toUInt32).toInt32 &&& (3 : Int32))), .val (.int (0 : Int32))] [(.ref a18), (.ref a40)])) (fun _ k => XS.iload X83.here hx rfl (hb hby at_164) rfl (XS.icmpNo X83.here hx rfl (hb hby at_166) rfl (XT.ii_ne_f (by decide)) (XS.aload X83.here hx rfl (hb hby at_169) rfl rfl (XS.aload X83.here hx rfl (hb hby at_171) rfl rfl k)))) ?_
                  refine Goes.callV X83 hx hZ58 0 hown58 (own_w hw 108 rfl) (own_w hw 109 rfl) (notFace_of_selects (args := #[]) (mvT hZ58 (own_w hw 111 rfl))) (own_w hw 111 rfl) (own_w hw 110 rfl) (own_w hw 39 rfl) (own_w hw 112 rfl) (by decide) e83 A58 (rmOe11 l Z a0 hw a40 a18 (c010.toInt8.toInt32) (c02.toInt8.toInt32) T58.heap n0 Z66 C59 cs SC hcs r10 r2 b10 b2 kb10 kb2 z17 x2 A58 B58_endpoint B58_object C62 C63 C64 C61 C60 (0 : Int32) (Or.inl rfl) (own_F (fun q => hc75 ((own_inj hc02.2.1 hc010.2.1 q.1))))) (by decide) (by decide) (by decide) (by decide) rfl (by rw [hml]; rfl) (argsL := [(.ref a18)]) (rest := []) rfl (lenOf pd_7 rfl) rfl (by show 2 * 0 + _ ≤ _; exact Nat.le_of_eq rfl) (hb hby at_173) ?_
                  intro v84 T84 L84 X84 hQ84
                  obtain ⟨rfl, N84q, e84⟩ := hQ84
                  have N84 := Fr.app N83 N84q
                  show Goes p e below _ T84 (mkF m 176 #[.val (.int x0), .val (.int x1), .val (.long x2), .second, .val (.long x3), .second, .val (.int x4), .val (.ref r2), .val (.ref r10), .val (.long z17), .second, .val (.ref a18), .val (.ref a40), .val (.int ((x4.toUInt32 >>> ((2 : Int32) &&& 31).toUInt32).toInt32 &&& (3 : Int32))), .val (.int (0 : Int32))] [(.int (0 : Int32))])
                  refine Goes.on (T' := T84) (g' := (mkF m 186 #[.val (.int x0), .val (.int x1), .val (.long x2), .second, .val (.long x3), .second, .val (.int x4), .val (.ref r2), .val (.ref r10), .val (.long z17), .second, .val (.ref a18), .val (.ref a40), .val (.int ((x4.toUInt32 >>> ((2 : Int32) &&& 31).toUInt32).toInt32 &&& (3 : Int32))), .val (.int (0 : Int32))] [(.int (1 : Int32))])) (fun _ k => XS.iload X84.here hx rfl (hb hby at_176) rfl (XS.icmpNo X84.here hx rfl (hb hby at_178) rfl (XT.ii_ne_f (by decide)) (XS.iconst X84.here hx rfl (hb hby at_181) (XS.goto X84.here hx rfl (pc0 := 182) (pc' := 186) rfl (hb hby at_182) (by decide) (by decide) k)))) ?_
                  exact Goes.retBW X84 hS58 (by rw [e84]; exact hk58) hZ58 hEL (by rw [e84]; exact RR58) hx hlk hret (Or.inr rfl) (hb hby at_186) (by decide) (by decide) ⟨rfl, N84⟩
        · intro J17
          refine Goes.on (T' := T10) (g' := (mkF m 29 #[.val (.int x0), .val (.int x1), .val (.long x2), .second, .val (.long x3), .second, .val (.int x4), .val (.ref r2), .val (.ref r10), .unset, .unset, .unset, .unset, .unset, .unset] [(.int (x4 &&& (2 : Int32)))])) (fun _ k => XS.iload X10.here hx rfl (hb hby at_25) rfl (XS.iconst X10.here hx rfl (hb hby at_27) (XS.iand X10.here hx rfl (hb hby at_28) rfl k))) ?_
          by_cases hc85 : (x4 &&& (2 : Int32)) = (0 : Int32)
          · refine Goes.on (T' := T10) (g' := (mkF m 38 #[.val (.int x0), .val (.int x1), .val (.long x2), .second, .val (.long x3), .second, .val (.int x4), .val (.ref r2), .val (.ref r10), .unset, .unset, .unset, .unset, .unset, .unset] [(.long x3)])) (fun _ k => XS.ifYes X10.here hx rfl (pc0 := 29) (pc' := 36) rfl (hb hby at_29) rfl (XT.i0_eq_t hc85) (by decide) (by decide) (XS.lload X10.here hx rfl (hb hby at_36) rfl k)) ?_
            exact J17 x3
          · refine Goes.on (T' := T10) (g' := (mkF m 38 #[.val (.int x0), .val (.int x1), .val (.long x2), .second, .val (.long x3), .second, .val (.int x4), .val (.ref r2), .val (.ref r10), .unset, .unset, .unset, .unset, .unset, .unset] [(.long x2)])) (fun _ k => XS.ifNo X10.here hx rfl (hb hby at_29) rfl (XT.i0_eq_f hc85) (XS.lloadN X10.here hx rfl (hb hby at_32) rfl (XS.goto X10.here hx rfl (pc0 := 33) (pc' := 38) rfl (hb hby at_33) (by decide) (by decide) k))) ?_
            exact J17 x2
      · refine Goes.callS X2 hx hZ 0 hown (own_w hw 0 rfl) (own_w hw 1 rfl) (own_w hw 2 rfl) (own_w hw 3 rfl) (by decide) rfl (rmMk2 l Z a0 hw z8 T2.heap n0 Z4 C3 cs SC hcs hc9) (by decide) (by decide) (by decide) (by decide) rfl (by rw [hml]; rfl) (argsL := [(.int z8)]) (rest := []) rfl (lenOf pd_14 rfl) rfl (by show 2 * 0 + _ ≤ _; exact Nat.le_of_eq rfl) (hb hby at_20) ?_
        intro v86 T86 L86 X86 hQ86
        obtain ⟨r86, b86, kb86, c086, c186, rfl, N86q, K86, mr86, mb86, Q86, hc086, hc186, no86⟩ := hQ86
        have N86 := Fr.app N2 N86q
        show Goes p e below _ T86 (mkF m 23 #[.val (.int x0), .val (.int x1), .val (.long x2), .second, .val (.long x3), .second, .val (.int x4), .val (.ref r2), .unset, .unset, .unset, .unset, .unset, .unset, .unset] [(.ref r86)])
        have C87 := C3.keep K86 all0
        have C88 := Q2.keep K86 nin0 nin0
        have Z89 : n0 ≤ T86.heap.size := Nat.le_trans Z4 K86.1
        have Z90 : 0 ≤ T86.heap.size := Nat.le_trans Z5 K86.1
        have RR92 := RR7.trans (CHr.keep K86 all0 RR7.1)
        refine Goes.on (T' := T86) (g' := (mkF m 25 #[.val (.int x0), .val (.int x1), .val (.long x2), .second, .val (.long x3), .second, .val (.int x4), .val (.ref r2), .val (.ref r86), .unset, .unset, .unset, .unset, .unset, .unset] [])) (fun _ k => XS.astore X86.here hx rfl (hb hby at_23) rfl rfl (l' := #[.val (.int x0), .val (.int x1), .val (.long x2), .second, .val (.long x3), .second, .val (.int x4), .val (.ref r2), .val (.ref r86), .unset, .unset, .unset, .unset, .unset, .unset]) rfl k) ?_
        refine Goes.joinJ (T' := T86) (fr := fun z93 => (mkF m 38 #[.val (.int x0), .val (.int x1), .val (.long x2), .second, .val (.long x3), .second, .val (.int x4), .val (.ref r2), .val (.ref r86), .unset, .unset, .unset, .unset, .unset, .unset] [(.long z93)])) ?_ ?_
        · intro z93
          refine Goes.on (T' := T86) (g' := (mkF m 40 #[.val (.int x0), .val (.int x1), .val (.long x2), .second, .val (.long x3), .second, .val (.int x4), .val (.ref r2), .val (.ref r86), .val (.long z93), .second, .unset, .unset, .unset, .unset] [])) (fun _ k => XS.lstore X86.here hx rfl (hb hby at_38) rfl (l' := #[.val (.int x0), .val (.int x1), .val (.long x2), .second, .val (.long x3), .second, .val (.int x4), .val (.ref r2), .val (.ref r86), .val (.long z93), .second, .unset, .unset, .unset, .unset]) rfl k) ?_
          obtain ⟨T94, h94, X94, e94, E94, A94, D94, U94, st94⟩ := newO X86 hx hZ hown (own_w hw 37 rfl) (own_w hw 38 rfl) (own_w hw 39 rfl) rfl (g := (mkF m 40 #[.val (.int x0), .val (.int x1), .val (.long x2), .second, .val (.long x3), .second, .val (.int x4), .val (.ref r2), .val (.ref r86), .val (.long z93), .second, .unset, .unset, .unset, .unset] [])) rfl (hb hby at_40) (by decide) (by decide)
          obtain ⟨a94, g94⟩ : ∃ z, z = T86.heap.size := ⟨_, rfl⟩
          rw [← g94] at A94 D94 U94 st94
          have C95 := C87.ext E94
          have C96 := C88.ext E94
          have C97 := Q86.ext E94
          have ne98 : r2 ≠ a94 := Nat.ne_of_lt (Nat.lt_of_lt_of_le (C88.1.lt) (Nat.le_of_eq g94.symm))
          have ne99 : b2 ≠ a94 := Nat.ne_of_lt (Nat.lt_of_lt_of_le (C88.2.2.2.lt) (Nat.le_of_eq g94.symm))
          have ne100 : r86 ≠ a94 := Nat.ne_of_lt (Nat.lt_of_lt_of_le (Q86.1.lt) (Nat.le_of_eq g94.symm))
          have ne101 : b86 ≠ a94 := Nat.ne_of_lt (Nat.lt_of_lt_of_le (Q86.2.2.2.lt) (Nat.le_of_eq g94.symm))
          have Z102 : n0 ≤ h94.size := Nat.le_trans Z89 E94.1
          have Z103 : 0 ≤ h94.size := Nat.le_trans Z90 E94.1
          have RR105 := RR92.trans (CHr.ext E94 RR92.1)
          have F106 : Fld Z h94 a94 "com/example/narada/narada/ObjectAddress" "endpoint" "Ljava/lang/String;" .null := D94 (Or.inr (own_w hw 105 rfl)) (ty := (.object "java/lang/String")) (by decide)
          have F107 : Fld Z h94 a94 "com/example/narada/narada/ObjectAddress" "object" "J" (.long (0 : Int64)) := D94 (Or.inr (own_w hw 107 rfl)) (ty := .long) (by decide)
          have G94 : n0 ≤ a94 := Nat.le_trans Z89 (Nat.le_of_eq g94.symm)
          refine Goes.on (T' := T94) (g' := (mkF m 47 #[.val (.int x0), .val (.int x1), .val (.long x2), .second, .val (.long x3), .second, .val (.int x4), .val (.ref r2), .val (.ref r86), .val (.long z93), .second, .unset, .unset, .unset, .unset] [(.long x2), (.ref r2), (.ref a94), (.ref a94)])) (fun _ k => st94 _ (XS.dup X94.here hx rfl (hb hby at_43) rfl rfl (XS.aload X94.here hx rfl (hb hby at_44) rfl rfl (XS.lloadN X94.here hx rfl (hb hby at_46) rfl k)))) ?_
          refine Goes.callCW X94 hx hZ hS0 Z103 hEL RR105.1 1 rfl hown (own_w hw 40 rfl) (own_w hw 41 rfl) (own_w hw 39 rfl) (own_w hw 42 rfl) (by decide) e94 (rmOa_1 l Z a0 hw a94 r2 x2 h94 n0 Z102 A94 G94 F106 F107 hEL C95 cs SC hcs b2 kb2 (c02.toInt8.toInt32) C96 (fun q => no2 (own_b46 hc02 q)) (fun q => q) (own_b47 hc02) (own_b0 hc02)) (by decide) (by decide) (by decide) (by decide) rfl (by rw [hml]; rfl) (a := a94) (argsL := [(.ref r2), (.long x2)]) (rest := [(.ref a94)]) rfl (lenOf pd_15 rfl) rfl (by show 2 * 0 + _ ≤ _; exact Nat.le_of_eq rfl) (hb hby at_47) ?_
          intro v108 T108 L108 k108 X108 hS108 hk108 hZ108 hown108 R108 hQ108
          obtain ⟨rfl, N108q, K108, A108, B108_endpoint, B108_object⟩ := hQ108
          have N108 := Fr.app N86 N108q
          show Goes p e below _ T108 (mkF m 50 #[.val (.int x0), .val (.int x1), .val (.long x2), .second, .val (.long x3), .second, .val (.int x4), .val (.ref r2), .val (.ref r86), .val (.long z93), .second, .unset, .unset, .unset, .unset] [(.ref a94)])
          have RR108 := RR105.trans R108
          have C109 := C95.keep K108 (allS G94 all0)
          have C110 := C96.keep K108 (ninS ne98 nin0) (ninS ne99 nin0)
          have C111 := C97.keep K108 (ninS ne100 nin0) (ninS ne101 nin0)
          have Z113 : n0 ≤ T108.heap.size := Nat.le_trans Z102 K108.1
          refine Goes.on (T' := T108) (g' := (mkF m 52 #[.val (.int x0), .val (.int x1), .val (.long x2), .second, .val (.long x3), .second, .val (.int x4), .val (.ref r2), .val (.ref r86), .val (.long z93), .second, .val (.ref a94), .unset, .unset, .unset] [])) (fun _ k => XS.astore X108.here hx rfl (hb hby at_50) rfl rfl (l' := #[.val (.int x0), .val (.int x1), .val (.long x2), .second, .val (.long x3), .second, .val (.int x4), .val (.ref r2), .val (.ref r86), .val (.long z93), .second, .val (.ref a94), .unset, .unset, .unset]) rfl k) ?_
          obtain ⟨T116, h116, X116, e116, E116, A116, D116, U116, st116⟩ := newO X108 hx hZ108 hown108 (own_w hw 37 rfl) (own_w hw 38 rfl) (own_w hw 39 rfl) rfl (g := (mkF m 52 #[.val (.int x0), .val (.int x1), .val (.long x2), .second, .val (.long x3), .second, .val (.int x4), .val (.ref r2), .val (.ref r86), .val (.long z93), .second, .val (.ref a94), .unset, .unset, .unset] [])) rfl (hb hby at_52) (by decide) (by decide)
          obtain ⟨a116, g116⟩ : ∃ z, z = T108.heap.size := ⟨_, rfl⟩
          rw [← g116] at A116 D116 U116 st116
          have C117 := C109.ext E116
          have C118 := C110.ext E116
          have C119 := C111.ext E116
          have C120 := A108.ext E116
          have C121 := B108_endpoint.ext E116
          have C122 := B108_object.ext E116
          have ne123 : r2 ≠ a116 := Nat.ne_of_lt (Nat.lt_of_lt_of_le (C110.1.lt) (Nat.le_of_eq g116.symm))
          have ne124 : b2 ≠ a116 := Nat.ne_of_lt (Nat.lt_of_lt_of_le (C110.2.2.2.lt) (Nat.le_of_eq g116.symm))
          have ne125 : r86 ≠ a116 := Nat.ne_of_lt (Nat.lt_of_lt_of_le (C111.1.lt) (Nat.le_of_eq g116.symm))
          have ne126 : b86 ≠ a116 := Nat.ne_of_lt (Nat.lt_of_lt_of_le (C111.2.2.2.lt) (Nat.le_of_eq g116.symm))
          have ne127 : a94 ≠ a116 := Nat.ne_of_lt (Nat.lt_of_lt_of_le (A108).lt (Nat.le_of_eq g116.symm))
          have Z128 : n0 ≤ h116.size := Nat.le_trans Z113 E116.1
          have Z129 : k108 ≤ h116.size := Nat.le_trans hk108 E116.1
          have RR131 := RR108.trans (CHr.ext E116 RR108.1)
          have F132 : Fld Z h116 a116 "com/example/narada/narada/ObjectAddress" "endpoint" "Ljava/lang/String;" .null := D116 (Or.inr (own_w hw 105 rfl)) (ty := (.object "java/lang/String")) (by decide)
          have F133 : Fld Z h116 a116 "com/example/narada/narada/ObjectAddress" "object" "J" (.long (0 : Int64)) := D116 (Or.inr (own_w hw 107 rfl)) (ty := .long) (by decide)
          have G116 : n0 ≤ a116 := Nat.le_trans Z113 (Nat.le_of_eq g116.symm)
          refine Goes.on (T' := T116) (g' := (mkF m 60 #[.val (.int x0), .val (.int x1), .val (.long x2), .second, .val (.long x3), .second, .val (.int x4), .val (.ref r2), .val (.ref r86), .val (.long z93), .second, .val (.ref a94), .unset, .unset, .unset] [(.long z93), (.ref r86), (.ref a116), (.ref a116)])) (fun _ k => st116 _ (XS.dup X116.here hx rfl (hb hby at_55) rfl rfl (XS.aload X116.here hx rfl (hb hby at_56) rfl rfl (XS.lload X116.here hx rfl (hb hby at_58) rfl k)))) ?_
          refine Goes.callCW X116 hx hZ108 hS108 Z129 hEL RR131.1 1 rfl hown108 (own_w hw 40 rfl) (own_w hw 41 rfl) (own_w hw 39 rfl) (own_w hw 42 rfl) (by decide) e116 (rmOa_2 l Z a0 hw a116 r86 z93 h116 n0 Z128 A116 G116 F132 F133 hEL C117 cs SC hcs b86 kb86 (c086.toInt8.toInt32) (c186.toInt8.toInt32) C119 (fun q => q) (fun q => no86 ⟨own_b46 hc086 q.1, own_b46 hc186 q.2⟩) (own_b47 hc086) (own_b47 hc186) (own_b0 hc086) (own_b0 hc186)) (by decide) (by decide) (by decide) (by decide) rfl (by rw [hml]; rfl) (a := a116) (argsL := [(.ref r86), (.long z93)]) (rest := [(.ref a116)]) rfl (lenOf pd_15 rfl) rfl (by show 2 * 0 + _ ≤ _; exact Nat.le_of_eq rfl) (hb hby at_60) ?_
          intro v134 T134 L134 k134 X134 hS134 hk134 hZ134 hown134 R134 hQ134
          obtain ⟨rfl, N134q, K134, A134, B134_endpoint, B134_object⟩ := hQ134
          have N134 := Fr.app N108 N134q
          show Goes p e below _ T134 (mkF m 63 #[.val (.int x0), .val (.int x1), .val (.long x2), .second, .val (.long x3), .second, .val (.int x4), .val (.ref r2), .val (.ref r86), .val (.long z93), .second, .val (.ref a94), .unset, .unset, .unset] [(.ref a116)])
          have RR134 := RR131.trans R134
          have C135 := C117.keep K134 (allS G116 all0)
          have C136 := C118.keep K134 (ninS ne123 nin0) (ninS ne124 nin0)
          have C137 := C119.keep K134 (ninS ne125 nin0) (ninS ne126 nin0)
          have C138 := C120.keep K134
          have C139 := C121.keep K134 (ninS ne127 nin0)
          have C140 := C122.keep K134 (ninS ne127 nin0)
          have Z142 : n0 ≤ T134.heap.size := Nat.le_trans Z128 K134.1
          refine Goes.on (T' := T134) (g' := (mkF m 75 #[.val (.int x0), .val (.int x1), .val (.long x2), .second, .val (.long x3), .second, .val (.int x4), .val (.ref r2), .val (.ref r86), .val (.long z93), .second, .val (.ref a94), .val (.ref a116), .val (.int ((x4.toUInt32 >>> ((2 : Int32) &&& 31).toUInt32).toInt32 &&& (3 : Int32))), .unset] [(.int ((x4.toUInt32 >>> ((2 : Int32) &&& 31).toUInt32).toInt32 &&& (3 : Int32)))])) (fun _ k => XS.astore X134.here hx rfl (hb hby at_63) rfl rfl (l' := #[.val (.int x0), .val (.int x1), .val (.long x2), .second, .val (.long x3), .second, .val (.int x4), .val (.ref r2), .val (.ref r86), .val (.long z93), .second, .val (.ref a94), .val (.ref a116), .unset, .unset]) rfl (XS.iload X134.here hx rfl (hb hby at_65) rfl (XS.iconst X134.here hx rfl (hb hby at_67) (XS.iushr X134.here hx rfl (hb hby at_68) rfl (XS.iconst X134.here hx rfl (hb hby at_69) (XS.iand X134.here hx rfl (hb hby at_70) rfl (XS.istore X134.here hx rfl (hb hby at_71) rfl (l' := #[.val (.int x0), .val (.int x1), .val (.long x2), .second, .val (.long x3), .second, .val (.int x4), .val (.ref r2), .val (.ref r86), .val (.long z93), .second, .val (.ref a94), .val (.ref a116), .val (.int ((x4.toUInt32 >>> ((2 : Int32) &&& 31).toUInt32).toInt32 &&& (3 : Int32))), .unset]) rfl (XS.iload X134.here hx rfl (hb hby at_73) rfl k)))))))) ?_
          by_cases hc145 : ((x4.toUInt32 >>> ((2 : Int32) &&& 31).toUInt32).toInt32 &&& (3 : Int32)) = (0 : Int32)
          · refine Goes.on (T' := T134) (g' := (mkF m 81 #[.val (.int x0), .val (.int x1), .val (.long x2), .second, .val (.long x3), .second, .val (.int x4), .val (.ref r2), .val (.ref r86), .val (.long z93), .second, .val (.ref a94), .val (.ref a116), .val (.int ((x4.toUInt32 >>> ((2 : Int32) &&& 31).toUInt32).toInt32 &&& (3 : Int32))), .unset] [.null, (.ref a94)])) (fun _ k => XS.ifNo X134.here hx rfl (hb hby at_75) rfl (XT.i0_ne_f hc145) (XS.aload X134.here hx rfl (hb hby at_78) rfl rfl (XS.aconstNull X134.here hx rfl (hb hby at_80) k))) ?_
            refine Goes.callV X134 hx hZ134 0 hown134 (own_w hw 108 rfl) (own_w hw 109 rfl) (notFace_of_selects (args := #[]) (mvT hZ134 (own_w hw 111 rfl))) (own_w hw 111 rfl) (own_w hw 110 rfl) (own_w hw 39 rfl) (own_w hw 112 rfl) (by decide) rfl C138 (rmOeN l Z a0 hw a94 T134.heap n0 Z142) (by decide) (by decide) (by decide) (by decide) rfl (by rw [hml]; rfl) (argsL := [.null]) (rest := []) rfl (lenOf pd_7 rfl) rfl (by show 2 * 0 + _ ≤ _; exact Nat.le_of_eq rfl) (hb hby at_81) ?_
            intro v146 T146 L146 X146 hQ146
            obtain ⟨rfl, N146q, e146⟩ := hQ146
            have N146 := Fr.app N134 N146q
            show Goes p e below _ T146 (mkF m 84 #[.val (.int x0), .val (.int x1), .val (.long x2), .second, .val (.long x3), .second, .val (.int x4), .val (.ref r2), .val (.ref r86), .val (.long z93), .second, .val (.ref a94), .val (.ref a116), .val (.int ((x4.toUInt32 >>> ((2 : Int32) &&& 31).toUInt32).toInt32 &&& (3 : Int32))), .unset] [(.int (0 : Int32))])
            refine Goes.on (T' := T146) (g' := (mkF m 92 #[.val (.int x0), .val (.int x1), .val (.long x2), .second, .val (.long x3), .second, .val (.int x4), .val (.ref r2), .val (.ref r86), .val (.long z93), .second, .val (.ref a94), .val (.ref a116), .val (.int ((x4.toUInt32 >>> ((2 : Int32) &&& 31).toUInt32).toInt32 &&& (3 : Int32))), .unset] [(.int (1 : Int32))])) (fun _ k => XS.ifNo X146.here hx rfl (hb hby at_84) rfl (XT.i0_ne_f (by decide)) (XS.iconst X146.here hx rfl (hb hby at_87) (XS.goto X146.here hx rfl (pc0 := 88) (pc' := 92) rfl (hb hby at_88) (by decide) (by decide) k))) ?_
            exact Goes.retBW X146 hS134 (by rw [e146]; exact hk134) hZ134 hEL (by rw [e146]; exact RR134) hx hlk hret (Or.inr rfl) (hb hby at_92) (by decide) (by decide) ⟨rfl, N146⟩
          · refine Goes.on (T' := T134) (g' := (mkF m 96 #[.val (.int x0), .val (.int x1), .val (.long x2), .second, .val (.long x3), .second, .val (.int x4), .val (.ref r2), .val (.ref r86), .val (.long z93), .second, .val (.ref a94), .val (.ref a116), .val (.int ((x4.toUInt32 >>> ((2 : Int32) &&& 31).toUInt32).toInt32 &&& (3 : Int32))), .unset] [(.int (1 : Int32)), (.int ((x4.toUInt32 >>> ((2 : Int32) &&& 31).toUInt32).toInt32 &&& (3 : Int32)))])) (fun _ k => XS.ifYes X134.here hx rfl (pc0 := 75) (pc' := 93) rfl (hb hby at_75) rfl (XT.i0_ne_t hc145) (by decide) (by decide) (XS.iload X134.here hx rfl (hb hby at_93) rfl (XS.iconst X134.here hx rfl (hb hby at_95) k))) ?_
            by_cases hc147 : ((x4.toUInt32 >>> ((2 : Int32) &&& 31).toUInt32).toInt32 &&& (3 : Int32)) = (1 : Int32)
            · refine Goes.on (T' := T134) (g' := (mkF m 107 #[.val (.int x0), .val (.int x1), .val (.long x2), .second, .val (.long x3), .second, .val (.int x4), .val (.ref r2), .val (.ref r86), .val (.long z93), .second, .val (.ref a94), .val (.ref a116), .val (.int ((x4.toUInt32 >>> ((2 : Int32) &&& 31).toUInt32).toInt32 &&& (3 : Int32))), .val (.ref r86)] [(.ref r86), (.ref a94)])) (fun _ k => XS.icmpNo X134.here hx rfl (hb hby at_96) rfl (XT.ii_ne_f hc147) (XS.aload X134.here hx rfl (hb hby at_99) rfl rfl (XS.astore X134.here hx rfl (hb hby at_101) rfl rfl (l' := #[.val (.int x0), .val (.int x1), .val (.long x2), .second, .val (.long x3), .second, .val (.int x4), .val (.ref r2), .val (.ref r86), .val (.long z93), .second, .val (.ref a94), .val (.ref a116), .val (.int ((x4.toUInt32 >>> ((2 : Int32) &&& 31).toUInt32).toInt32 &&& (3 : Int32))), .val (.ref r86)]) rfl (XS.aload X134.here hx rfl (hb hby at_103) rfl rfl (XS.aload X134.here hx rfl (hb hby at_105) rfl rfl k))))) ?_
              refine Goes.callV X134 hx hZ134 0 hown134 (own_w hw 108 rfl) (own_w hw 109 rfl) (notFace_of_selects (args := #[]) (mvT hZ134 (own_w hw 111 rfl))) (own_w hw 111 rfl) (own_w hw 110 rfl) (own_w hw 39 rfl) (own_w hw 112 rfl) (by decide) rfl C138 (rmOeS l Z a0 hw a94 r86 T134.heap n0 Z142 (C137).1) (by decide) (by decide) (by decide) (by decide) rfl (by rw [hml]; rfl) (argsL := [(.ref r86)]) (rest := []) rfl (lenOf pd_7 rfl) rfl (by show 2 * 0 + _ ≤ _; exact Nat.le_of_eq rfl) (hb hby at_107) ?_
              intro v148 T148 L148 X148 hQ148
              obtain ⟨rfl, N148q, e148⟩ := hQ148
              have N148 := Fr.app N134 N148q
              show Goes p e below _ T148 (mkF m 110 #[.val (.int x0), .val (.int x1), .val (.long x2), .second, .val (.long x3), .second, .val (.int x4), .val (.ref r2), .val (.ref r86), .val (.long z93), .second, .val (.ref a94), .val (.ref a116), .val (.int ((x4.toUInt32 >>> ((2 : Int32) &&& 31).toUInt32).toInt32 &&& (3 : Int32))), .val (.ref r86)] [(.int (0 : Int32))])
              refine Goes.on (T' := T148) (g' := (mkF m 118 #[.val (.int x0), .val (.int x1), .val (.long x2), .second, .val (.long x3), .second, .val (.int x4), .val (.ref r2), .val (.ref r86), .val (.long z93), .second, .val (.ref a94), .val (.ref a116), .val (.int ((x4.toUInt32 >>> ((2 : Int32) &&& 31).toUInt32).toInt32 &&& (3 : Int32))), .val (.ref r86)] [(.int (1 : Int32))])) (fun _ k => XS.ifNo X148.here hx rfl (hb hby at_110) rfl (XT.i0_ne_f (by decide)) (XS.iconst X148.here hx rfl (hb hby at_113) (XS.goto X148.here hx rfl (pc0 := 114) (pc' := 118) rfl (hb hby at_114) (by decide) (by decide) k))) ?_
              exact Goes.retBW X148 hS134 (by rw [e148]; exact hk134) hZ134 hEL (by rw [e148]; exact RR134) hx hlk hret (Or.inr rfl) (hb hby at_118) (by decide) (by decide) ⟨rfl, N148⟩
            · refine Goes.on (T' := T134) (g' := (mkF m 122 #[.val (.int x0), .val (.int x1), .val (.long x2), .second, .val (.long x3), .second, .val (.int x4), .val (.ref r2), .val (.ref r86), .val (.long z93), .second, .val (.ref a94), .val (.ref a116), .val (.int ((x4.toUInt32 >>> ((2 : Int32) &&& 31).toUInt32).toInt32 &&& (3 : Int32))), .unset] [(.int (2 : Int32)), (.int ((x4.toUInt32 >>> ((2 : Int32) &&& 31).toUInt32).toInt32 &&& (3 : Int32)))])) (fun _ k => XS.icmpYes X134.here hx rfl (pc0 := 96) (pc' := 119) rfl (hb hby at_96) rfl (XT.ii_ne_t hc147) (by decide) (by decide) (XS.iload X134.here hx rfl (hb hby at_119) rfl (XS.iconst X134.here hx rfl (hb hby at_121) k))) ?_
              by_cases hc149 : ((x4.toUInt32 >>> ((2 : Int32) &&& 31).toUInt32).toInt32 &&& (3 : Int32)) = (2 : Int32)
              · refine Goes.on (T' := T134) (g' := (mkF m 129 #[.val (.int x0), .val (.int x1), .val (.long x2), .second, .val (.long x3), .second, .val (.int x4), .val (.ref r2), .val (.ref r86), .val (.long z93), .second, .val (.ref a94), .val (.ref a116), .val (.int ((x4.toUInt32 >>> ((2 : Int32) &&& 31).toUInt32).toInt32 &&& (3 : Int32))), .unset] [(.ref a94), (.ref a94)])) (fun _ k => XS.icmpNo X134.here hx rfl (hb hby at_122) rfl (XT.ii_ne_f hc149) (XS.aload X134.here hx rfl (hb hby at_125) rfl rfl (XS.aload X134.here hx rfl (hb hby at_127) rfl rfl k))) ?_
                refine Goes.callV X134 hx hZ134 0 hown134 (own_w hw 108 rfl) (own_w hw 109 rfl) (notFace_of_selects (args := #[]) (mvT hZ134 (own_w hw 111 rfl))) (own_w hw 111 rfl) (own_w hw 110 rfl) (own_w hw 39 rfl) (own_w hw 112 rfl) (by decide) rfl C138 (rmOe11 l Z a0 hw a94 a94 (c02.toInt8.toInt32) (c02.toInt8.toInt32) T134.heap n0 Z142 C135 cs SC hcs r2 r2 b2 b2 kb2 kb2 x2 x2 C138 C139 C140 C138 C139 C140 C136 C136 (1 : Int32) (Or.inr rfl) (own_T ⟨rfl, rfl⟩)) (by decide) (by decide) (by decide) (by decide) rfl (by rw [hml]; rfl) (argsL := [(.ref a94)]) (rest := []) rfl (lenOf pd_7 rfl) rfl (by show 2 * 0 + _ ≤ _; exact Nat.le_of_eq rfl) (hb hby at_129) ?_
                intro v150 T150 L150 X150 hQ150
                obtain ⟨rfl, N150q, e150⟩ := hQ150
                have N150 := Fr.app N134 N150q
                show Goes p e below _ T150 (mkF m 132 #[.val (.int x0), .val (.int x1), .val (.long x2), .second, .val (.long x3), .second, .val (.int x4), .val (.ref r2), .val (.ref r86), .val (.long z93), .second, .val (.ref a94), .val (.ref a116), .val (.int ((x4.toUInt32 >>> ((2 : Int32) &&& 31).toUInt32).toInt32 &&& (3 : Int32))), .unset] [(.int (1 : Int32))])
                exact Goes.retBW X150 hS134 (by rw [e150]; exact hk134) hZ134 hEL (by rw [e150]; exact RR134) hx hlk hret (Or.inr rfl) (hb hby at_132) (by decide) (by decide) ⟨rfl, N150⟩
              · refine Goes.on (T' := T134) (g' := (mkF m 137 #[.val (.int x0), .val (.int x1), .val (.long x2), .second, .val (.long x3), .second, .val (.int x4), .val (.ref r2), .val (.ref r86), .val (.long z93), .second, .val (.ref a94), .val (.ref a116), .val (.int ((x4.toUInt32 >>> ((2 : Int32) &&& 31).toUInt32).toInt32 &&& (3 : Int32))), .unset] [(.ref r86), (.ref r2)])) (fun _ k => XS.icmpYes X134.here hx rfl (pc0 := 122) (pc' := 133) rfl (hb hby at_122) rfl (XT.ii_ne_t hc149) (by decide) (by decide) (XS.aload X134.here hx rfl (hb hby at_133) rfl rfl (XS.aload X134.here hx rfl (hb hby at_135) rfl rfl k))) ?_
                refine Goes.callS X134 hx hZ134 0 hown134 (own_w hw 116 rfl) (own_w hw 117 rfl) (own_w hw 2 rfl) (own_w hw 118 rfl) (by decide) rfl (rmSs12 l Z a0 hw r2 r86 c02 c086 c186 T134.heap n0 Z142 C135 cs SC hcs sf SF hsf b2 b86 kb2 kb86 C136 C137 hc02 hc086 hc186 (0 : Int32) (Or.inl rfl) (own_F (fun q => q))) (by decide) (by decide) (by decide) (by decide) rfl (by rw [hml]; rfl) (argsL := [(.ref r2), (.ref r86)]) (rest := []) rfl (lenOf pd_16 rfl) rfl (by show 2 * 0 + _ ≤ _; exact Nat.le_of_eq rfl) (hb hby at_137) ?_
                intro v151 T151 L151 X151 hQ151
                obtain ⟨rfl, N151q, e151⟩ := hQ151
                have N151 := Fr.app N134 N151q
                show Goes p e below _ T151 (mkF m 140 #[.val (.int x0), .val (.int x1), .val (.long x2), .second, .val (.long x3), .second, .val (.int x4), .val (.ref r2), .val (.ref r86), .val (.long z93), .second, .val (.ref a94), .val (.ref a116), .val (.int ((x4.toUInt32 >>> ((2 : Int32) &&& 31).toUInt32).toInt32 &&& (3 : Int32))), .unset] [(.int (0 : Int32))])
                refine Goes.on (T' := T151) (g' := (mkF m 161 #[.val (.int x0), .val (.int x1), .val (.long x2), .second, .val (.long x3), .second, .val (.int x4), .val (.ref r2), .val (.ref r86), .val (.long z93), .second, .val (.ref a94), .val (.ref a116), .val (.int ((x4.toUInt32 >>> ((2 : Int32) &&& 31).toUInt32).toInt32 &&& (3 : Int32))), .val (.int (0 : Int32))] [(.ref a116), (.ref a94)])) (fun _ k => XS.ifYes X151.here hx rfl (pc0 := 140) (pc' := 154) rfl (hb hby at_140) rfl (XT.i0_eq_t (by decide)) (by decide) (by decide) (XS.iconst X151.here hx rfl (hb hby at_154) (XS.istore X151.here hx rfl (hb hby at_155) rfl (l' := #[.val (.int x0), .val (.int x1), .val (.long x2), .second, .val (.long x3), .second, .val (.int x4), .val (.ref r2), .val (.ref r86), .val (.long z93), .second, .val (.ref a94), .val (.ref a116), .val (.int ((x4.toUInt32 >>> ((2 : Int32) &&& 31).toUInt32).toInt32 &&& (3 : Int32))), .val (.int (0 : Int32))]) rfl (XS.aload X151.here hx rfl (hb hby at_157) rfl rfl (XS.aload X151.here hx rfl (hb hby at_159) rfl rfl k))))) ?_
                refine Goes.callV X151 hx hZ134 0 hown134 (own_w hw 108 rfl) (own_w hw 109 rfl) (notFace_of_selects (args := #[]) (mvT hZ134 (own_w hw 111 rfl))) (own_w hw 111 rfl) (own_w hw 110 rfl) (own_w hw 39 rfl) (own_w hw 112 rfl) (by decide) e151 C138 (rmOe12 l Z a0 hw a94 a116 (c02.toInt8.toInt32) (c086.toInt8.toInt32) (c186.toInt8.toInt32) T134.heap n0 Z142 C135 cs SC hcs r2 r86 b2 b86 kb2 kb86 x2 z93 C138 C139 C140 A134 B134_endpoint B134_object C136 C137 (0 : Int32) (Or.inl rfl) (own_F (fun q => q.1))) (by decide) (by decide) (by decide) (by decide) rfl (by rw [hml]; rfl) (argsL := [(.ref a116)]) (rest := []) rfl (lenOf pd_7 rfl) rfl (by show 2 * 0 + _ ≤ _; exact Nat.le_of_eq rfl) (hb hby at_161) ?_
                intro v152 T152 L152 X152 hQ152
                obtain ⟨rfl, N152q, e152⟩ := hQ152
                have N152 := Fr.app N151 N152q
                show Goes p e below _ T152 (mkF m 164 #[.val (.int x0), .val (.int x1), .val (.long x2), .second, .val (.long x3), .second, .val (.int x4), .val (.ref r2), .val (.ref r86), .val (.long z93), .second, .val (.ref a94), .val (.ref a116), .val (.int ((x4.toUInt32 >>> ((2 : Int32) &&& 31).toUInt32).toInt32 &&& (3 : Int32))), .val (.int (0 : Int32))] [(.int (0 : Int32))])
                refine Goes.on (T' := T152) (g' := (mkF m 173 #[.val (.int x0), .val (.int x1), .val (.long x2), .second, .val (.long x3), .second, .val (.int x4), .val (.ref r2), .val (.ref r86), .val (.long z93), .second, .val (.ref a94), .val (.ref a116), .val (.int ((x4.toUInt32 >>> ((2 : Int32) &&& 31).toUInt32).toInt32 &&& (3 : Int32))), .val (.int (0 : Int32))] [(.ref a94), (.ref a116)])) (fun _ k => XS.iload X152.here hx rfl (hb hby at_164) rfl (XS.icmpNo X152.here hx rfl (hb hby at_166) rfl (XT.ii_ne_f (by decide)) (XS.aload X152.here hx rfl (hb hby at_169) rfl rfl (XS.aload X152.here hx rfl (hb hby at_171) rfl rfl k)))) ?_
                refine Goes.callV X152 hx hZ134 0 hown134 (own_w hw 108 rfl) (own_w hw 109 rfl) (notFace_of_selects (args := #[]) (mvT hZ134 (own_w hw 111 rfl))) (own_w hw 111 rfl) (own_w hw 110 rfl) (own_w hw 39 rfl) (own_w hw 112 rfl) (by decide) e152 A134 (rmOe21 l Z a0 hw a116 a94 (c086.toInt8.toInt32) (c186.toInt8.toInt32) (c02.toInt8.toInt32) T134.heap n0 Z142 C135 cs SC hcs r86 r2 b86 b2 kb86 kb2 z93 x2 A134 B134_endpoint B134_object C138 C139 C140 C137 C136 (0 : Int32) (Or.inl rfl) (own_F (fun q => q.1))) (by decide) (by decide) (by decide) (by decide) rfl (by rw [hml]; rfl) (argsL := [(.ref a94)]) (rest := []) rfl (lenOf pd_7 rfl) rfl (by show 2 * 0 + _ ≤ _; exact Nat.le_of_eq rfl) (hb hby at_173) ?_
                intro v153 T153 L153 X153 hQ153
                obtain ⟨rfl, N153q, e153⟩ := hQ153
                have N153 := Fr.app N152 N153q
                show Goes p e below _ T153 (mkF m 176 #[.val (.int x0), .val (.int x1), .val (.long x2), .second, .val (.long x3), .second, .val (.int x4), .val (.ref r2), .val (.ref r86), .val (.long z93), .second, .val (.ref a94), .val (.ref a116), .val (.int ((x4.toUInt32 >>> ((2 : Int32) &&& 31).toUInt32).toInt32 &&& (3 : Int32))), .val (.int (0 : Int32))] [(.int (0 : Int32))])
                refine Goes.on (T' := T153) (g' := (mkF m 186 #[.val (.int x0), .val (.int x1), .val (.long x2), .second, .val (.long x3), .second, .val (.int x4), .val (.ref r2), .val (.ref r86), .val (.long z93), .second, .val (.ref a94), .val (.ref a116), .val (.int ((x4.toUInt32 >>> ((2 : Int32) &&& 31).toUInt32).toInt32 &&& (3 : Int32))), .val (.int (0 : Int32))] [(.int (1 : Int32))])) (fun _ k => XS.iload X153.here hx rfl (hb hby at_176) rfl (XS.icmpNo X153.here hx rfl (hb hby at_178) rfl (XT.ii_ne_f (by decide)) (XS.iconst X153.here hx rfl (hb hby at_181) (XS.goto X153.here hx rfl (pc0 := 182) (pc' := 186) rfl (hb hby at_182) (by decide) (by decide) k)))) ?_
                exact Goes.retBW X153 hS134 (by rw [e153]; exact hk134) hZ134 hEL (by rw [e153]; exact RR134) hx hlk hret (Or.inr rfl) (hb hby at_186) (by decide) (by decide) ⟨rfl, N153⟩
        · intro J93
          refine Goes.on (T' := T86) (g' := (mkF m 29 #[.val (.int x0), .val (.int x1), .val (.long x2), .second, .val (.long x3), .second, .val (.int x4), .val (.ref r2), .val (.ref r86), .unset, .unset, .unset, .unset, .unset, .unset] [(.int (x4 &&& (2 : Int32)))])) (fun _ k => XS.iload X86.here hx rfl (hb hby at_25) rfl (XS.iconst X86.here hx rfl (hb hby at_27) (XS.iand X86.here hx rfl (hb hby at_28) rfl k))) ?_
          by_cases hc154 : (x4 &&& (2 : Int32)) = (0 : Int32)
          · refine Goes.on (T' := T86) (g' := (mkF m 38 #[.val (.int x0), .val (.int x1), .val (.long x2), .second, .val (.long x3), .second, .val (.int x4), .val (.ref r2), .val (.ref r86), .unset, .unset, .unset, .unset, .unset, .unset] [(.long x3)])) (fun _ k => XS.ifYes X86.here hx rfl (pc0 := 29) (pc' := 36) rfl (hb hby at_29) rfl (XT.i0_eq_t hc154) (by decide) (by decide) (XS.lload X86.here hx rfl (hb hby at_36) rfl k)) ?_
            exact J93 x3
          · refine Goes.on (T' := T86) (g' := (mkF m 38 #[.val (.int x0), .val (.int x1), .val (.long x2), .second, .val (.long x3), .second, .val (.int x4), .val (.ref r2), .val (.ref r86), .unset, .unset, .unset, .unset, .unset, .unset] [(.long x2)])) (fun _ k => XS.ifNo X86.here hx rfl (hb hby at_29) rfl (XT.i0_eq_f hc154) (XS.lloadN X86.here hx rfl (hb hby at_32) rfl (XS.goto X86.here hx rfl (pc0 := 33) (pc' := 38) rfl (hb hby at_33) (by decide) (by decide) k))) ?_
            exact J93 x2
    · intro J8
      refine Goes.on (T' := T2) (g' := (mkF m 10 #[.val (.int x0), .val (.int x1), .val (.long x2), .second, .val (.long x3), .second, .val (.int x4), .val (.ref r2), .unset, .unset, .unset, .unset, .unset, .unset, .unset] [(.int (x4 &&& (1 : Int32)))])) (fun _ k => XS.iload X2.here hx rfl (hb hby at_6) rfl (XS.iconst X2.here hx rfl (hb hby at_8) (XS.iand X2.here hx rfl (hb hby at_9) rfl k))) ?_
      by_cases hc155 : (x4 &&& (1 : Int32)) = (0 : Int32)
      · refine Goes.on (T' := T2) (g' := (mkF m 20 #[.val (.int x0), .val (.int x1), .val (.long x2), .second, .val (.long x3), .second, .val (.int x4), .val (.ref r2), .unset, .unset, .unset, .unset, .unset, .unset, .unset] [(.int (x0 ^^^ x1))])) (fun _ k => XS.ifYes X2.here hx rfl (pc0 := 10) (pc' := 17) rfl (hb hby at_10) rfl (XT.i0_eq_t hc155) (by decide) (by decide) (XS.iloadN X2.here hx rfl (hb hby at_17) rfl (XS.iloadN X2.here hx rfl (hb hby at_18) rfl (XS.ixor X2.here hx rfl (hb hby at_19) rfl k)))) ?_
        exact J8 (x0 ^^^ x1)
      · refine Goes.on (T' := T2) (g' := (mkF m 20 #[.val (.int x0), .val (.int x1), .val (.long x2), .second, .val (.long x3), .second, .val (.int x4), .val (.ref r2), .unset, .unset, .unset, .unset, .unset, .unset, .unset] [(.int x0)])) (fun _ k => XS.ifNo X2.here hx rfl (hb hby at_10) rfl (XT.i0_eq_f hc155) (XS.iloadN X2.here hx rfl (hb hby at_13) rfl (XS.goto X2.here hx rfl (pc0 := 14) (pc' := 20) rfl (hb hby at_14) (by decide) (by decide) k))) ?_
        exact J8 x0
  · refine Goes.callS X0 hx hZ 0 hown (own_w hw 0 rfl) (own_w hw 1 rfl) (own_w hw 2 rfl) (own_w hw 3 rfl) (by decide) e0 (rmMk2 l Z a0 hw x0 h0 n0 Z0 O0 cs SC hcs hc1) (by decide) (by decide) (by decide) (by decide) rfl (by rw [hml]; rfl) (argsL := [(.int x0)]) (rest := []) rfl (lenOf pd_14 rfl) rfl (by show 2 * 0 + _ ≤ _; exact Nat.le_of_eq rfl) (hb hby at_1) ?_
    intro v156 T156 L156 X156 hQ156
    obtain ⟨r156, b156, kb156, c0156, c1156, rfl, N156q, K156, mr156, mb156, Q156, hc0156, hc1156, no156⟩ := hQ156
    have N156 := Fr.app N0 N156q
    show Goes p e below _ T156 (mkF m 4 #[.val (.int x0), .val (.int x1), .val (.long x2), .second, .val (.long x3), .second, .val (.int x4), .unset, .unset, .unset, .unset, .unset, .unset, .unset, .unset] [(.ref r156)])
    have C157 := O0.keep K156 all0
    have Z158 : n0 ≤ T156.heap.size := Nat.le_trans Z0 K156.1
    have Z159 : 0 ≤ T156.heap.size := Nat.le_trans hk0 K156.1
    have RR161 := RR0.trans (CHr.keep K156 all0 RR0.1)
    refine Goes.on (T' := T156) (g' := (mkF m 6 #[.val (.int x0), .val (.int x1), .val (.long x2), .second, .val (.long x3), .second, .val (.int x4), .val (.ref r156), .unset, .unset, .unset, .unset, .unset, .unset, .unset] [])) (fun _ k => XS.astore X156.here hx rfl (hb hby at_4) rfl rfl (l' := #[.val (.int x0), .val (.int x1), .val (.long x2), .second, .val (.long x3), .second, .val (.int x4), .val (.ref r156), .unset, .unset, .unset, .unset, .unset, .unset, .unset]) rfl k) ?_
    refine Goes.joinI (T' := T156) (fr := fun z162 => (mkF m 20 #[.val (.int x0), .val (.int x1), .val (.long x2), .second, .val (.long x3), .second, .val (.int x4), .val (.ref r156), .unset, .unset, .unset, .unset, .unset, .unset, .unset] [(.int z162)])) ?_ ?_
    · intro z162
      by_cases hc163 : ((1 : Int32) + ((z162.toUInt32 >>> ((16 : Int32) &&& 31).toUInt32).toInt32 &&& (1 : Int32))) = (1 : Int32)
      · refine Goes.callS X156 hx hZ 0 hown (own_w hw 0 rfl) (own_w hw 1 rfl) (own_w hw 2 rfl) (own_w hw 3 rfl) (by decide) rfl (rmMk1 l Z a0 hw z162 T156.heap n0 Z158 C157 cs SC hcs hc163) (by decide) (by decide) (by decide) (by decide) rfl (by rw [hml]; rfl) (argsL := [(.int z162)]) (rest := []) rfl (lenOf pd_14 rfl) rfl (by show 2 * 0 + _ ≤ _; exact Nat.le_of_eq rfl) (hb hby at_20) ?_
        intro v164 T164 L164 X164 hQ164
        obtain ⟨r164, b164, kb164, c0164, rfl, N164q, K164, mr164, mb164, Q164, hc0164, no164⟩ := hQ164
        have N164 := Fr.app N156 N164q
        show Goes p e below _ T164 (mkF m 23 #[.val (.int x0), .val (.int x1), .val (.long x2), .second, .val (.long x3), .second, .val (.int x4), .val (.ref r156), .unset, .unset, .unset, .unset, .unset, .unset, .unset] [(.ref r164)])
        have C165 := C157.keep K164 all0
        have C166 := Q156.keep K164 nin0 nin0
        have Z167 : n0 ≤ T164.heap.size := Nat.le_trans Z158 K164.1
        have Z168 : 0 ≤ T164.heap.size := Nat.le_trans Z159 K164.1
        have RR170 := RR161.trans (CHr.keep K164 all0 RR161.1)
        refine Goes.on (T' := T164) (g' := (mkF m 25 #[.val (.int x0), .val (.int x1), .val (.long x2), .second, .val (.long x3), .second, .val (.int x4), .val (.ref r156), .val (.ref r164), .unset, .unset, .unset, .unset, .unset, .unset] [])) (fun _ k => XS.astore X164.here hx rfl (hb hby at_23) rfl rfl (l' := #[.val (.int x0), .val (.int x1), .val (.long x2), .second, .val (.long x3), .second, .val (.int x4), .val (.ref r156), .val (.ref r164), .unset, .unset, .unset, .unset, .unset, .unset]) rfl k) ?_
        refine Goes.joinJ (T' := T164) (fr := fun z171 => (mkF m 38 #[.val (.int x0), .val (.int x1), .val (.long x2), .second, .val (.long x3), .second, .val (.int x4), .val (.ref r156), .val (.ref r164), .unset, .unset, .unset, .unset, .unset, .unset] [(.long z171)])) ?_ ?_
        · intro z171
          refine Goes.on (T' := T164) (g' := (mkF m 40 #[.val (.int x0), .val (.int x1), .val (.long x2), .second, .val (.long x3), .second, .val (.int x4), .val (.ref r156), .val (.ref r164), .val (.long z171), .second, .unset, .unset, .unset, .unset] [])) (fun _ k => XS.lstore X164.here hx rfl (hb hby at_38) rfl (l' := #[.val (.int x0), .val (.int x1), .val (.long x2), .second, .val (.long x3), .second, .val (.int x4), .val (.ref r156), .val (.ref r164), .val (.long z171), .second, .unset, .unset, .unset, .unset]) rfl k) ?_
          obtain ⟨T172, h172, X172, e172, E172, A172, D172, U172, st172⟩ := newO X164 hx hZ hown (own_w hw 37 rfl) (own_w hw 38 rfl) (own_w hw 39 rfl) rfl (g := (mkF m 40 #[.val (.int x0), .val (.int x1), .val (.long x2), .second, .val (.long x3), .second, .val (.int x4), .val (.ref r156), .val (.ref r164), .val (.long z171), .second, .unset, .unset, .unset, .unset] [])) rfl (hb hby at_40) (by decide) (by decide)
          obtain ⟨a172, g172⟩ : ∃ z, z = T164.heap.size := ⟨_, rfl⟩
          rw [← g172] at A172 D172 U172 st172
          have C173 := C165.ext E172
          have C174 := C166.ext E172
          have C175 := Q164.ext E172
          have ne176 : r156 ≠ a172 := Nat.ne_of_lt (Nat.lt_of_lt_of_le (C166.1.lt) (Nat.le_of_eq g172.symm))
          have ne177 : b156 ≠ a172 := Nat.ne_of_lt (Nat.lt_of_lt_of_le (C166.2.2.2.lt) (Nat.le_of_eq g172.symm))
          have ne178 : r164 ≠ a172 := Nat.ne_of_lt (Nat.lt_of_lt_of_le (Q164.1.lt) (Nat.le_of_eq g172.symm))
          have ne179 : b164 ≠ a172 := Nat.ne_of_lt (Nat.lt_of_lt_of_le (Q164.2.2.2.lt) (Nat.le_of_eq g172.symm))
          have Z180 : n0 ≤ h172.size := Nat.le_trans Z167 E172.1
          have Z181 : 0 ≤ h172.size := Nat.le_trans Z168 E172.1
          have RR183 := RR170.trans (CHr.ext E172 RR170.1)
          have F184 : Fld Z h172 a172 "com/example/narada/narada/ObjectAddress" "endpoint" "Ljava/lang/String;" .null := D172 (Or.inr (own_w hw 105 rfl)) (ty := (.object "java/lang/String")) (by decide)
          have F185 : Fld Z h172 a172 "com/example/narada/narada/ObjectAddress" "object" "J" (.long (0 : Int64)) := D172 (Or.inr (own_w hw 107 rfl)) (ty := .long) (by decide)
          have G172 : n0 ≤ a172 := Nat.le_trans Z167 (Nat.le_of_eq g172.symm)
          refine Goes.on (T' := T172) (g' := (mkF m 47 #[.val (.int x0), .val (.int x1), .val (.long x2), .second, .val (.long x3), .second, .val (.int x4), .val (.ref r156), .val (.ref r164), .val (.long z171), .second, .unset, .unset, .unset, .unset] [(.long x2), (.ref r156), (.ref a172), (.ref a172)])) (fun _ k => st172 _ (XS.dup X172.here hx rfl (hb hby at_43) rfl rfl (XS.aload X172.here hx rfl (hb hby at_44) rfl rfl (XS.lloadN X172.here hx rfl (hb hby at_46) rfl k)))) ?_
          refine Goes.callCW X172 hx hZ hS0 Z181 hEL RR183.1 1 rfl hown (own_w hw 40 rfl) (own_w hw 41 rfl) (own_w hw 39 rfl) (own_w hw 42 rfl) (by decide) e172 (rmOa_2 l Z a0 hw a172 r156 x2 h172 n0 Z180 A172 G172 F184 F185 hEL C173 cs SC hcs b156 kb156 (c0156.toInt8.toInt32) (c1156.toInt8.toInt32) C174 (fun q => q) (fun q => no156 ⟨own_b46 hc0156 q.1, own_b46 hc1156 q.2⟩) (own_b47 hc0156) (own_b47 hc1156) (own_b0 hc0156) (own_b0 hc1156)) (by decide) (by decide) (by decide) (by decide) rfl (by rw [hml]; rfl) (a := a172) (argsL := [(.ref r156), (.long x2)]) (rest := [(.ref a172)]) rfl (lenOf pd_15 rfl) rfl (by show 2 * 0 + _ ≤ _; exact Nat.le_of_eq rfl) (hb hby at_47) ?_
          intro v186 T186 L186 k186 X186 hS186 hk186 hZ186 hown186 R186 hQ186
          obtain ⟨rfl, N186q, K186, A186, B186_endpoint, B186_object⟩ := hQ186
          have N186 := Fr.app N164 N186q
          show Goes p e below _ T186 (mkF m 50 #[.val (.int x0), .val (.int x1), .val (.long x2), .second, .val (.long x3), .second, .val (.int x4), .val (.ref r156), .val (.ref r164), .val (.long z171), .second, .unset, .unset, .unset, .unset] [(.ref a172)])
          have RR186 := RR183.trans R186
          have C187 := C173.keep K186 (allS G172 all0)
          have C188 := C174.keep K186 (ninS ne176 nin0) (ninS ne177 nin0)
          have C189 := C175.keep K186 (ninS ne178 nin0) (ninS ne179 nin0)
          have Z191 : n0 ≤ T186.heap.size := Nat.le_trans Z180 K186.1
          refine Goes.on (T' := T186) (g' := (mkF m 52 #[.val (.int x0), .val (.int x1), .val (.long x2), .second, .val (.long x3), .second, .val (.int x4), .val (.ref r156), .val (.ref r164), .val (.long z171), .second, .val (.ref a172), .unset, .unset, .unset] [])) (fun _ k => XS.astore X186.here hx rfl (hb hby at_50) rfl rfl (l' := #[.val (.int x0), .val (.int x1), .val (.long x2), .second, .val (.long x3), .second, .val (.int x4), .val (.ref r156), .val (.ref r164), .val (.long z171), .second, .val (.ref a172), .unset, .unset, .unset]) rfl k) ?_
          obtain ⟨T194, h194, X194, e194, E194, A194, D194, U194, st194⟩ := newO X186 hx hZ186 hown186 (own_w hw 37 rfl) (own_w hw 38 rfl) (own_w hw 39 rfl) rfl (g := (mkF m 52 #[.val (.int x0), .val (.int x1), .val (.long x2), .second, .val (.long x3), .second, .val (.int x4), .val (.ref r156), .val (.ref r164), .val (.long z171), .second, .val (.ref a172), .unset, .unset, .unset] [])) rfl (hb hby at_52) (by decide) (by decide)
          obtain ⟨a194, g194⟩ : ∃ z, z = T186.heap.size := ⟨_, rfl⟩
          rw [← g194] at A194 D194 U194 st194
          have C195 := C187.ext E194
          have C196 := C188.ext E194
          have C197 := C189.ext E194
          have C198 := A186.ext E194
          have C199 := B186_endpoint.ext E194
          have C200 := B186_object.ext E194
          have ne201 : r156 ≠ a194 := Nat.ne_of_lt (Nat.lt_of_lt_of_le (C188.1.lt) (Nat.le_of_eq g194.symm))
          have ne202 : b156 ≠ a194 := Nat.ne_of_lt (Nat.lt_of_lt_of_le (C188.2.2.2.lt) (Nat.le_of_eq g194.symm))
          have ne203 : r164 ≠ a194 := Nat.ne_of_lt (Nat.lt_of_lt_of_le (C189.1.lt) (Nat.le_of_eq g194.symm))
          have ne204 : b164 ≠ a194 := Nat.ne_of_lt (Nat.lt_of_lt_of_le (C189.2.2.2.lt) (Nat.le_of_eq g194.symm))
          have ne205 : a172 ≠ a194 := Nat.ne_of_lt (Nat.lt_of_lt_of_le (A186).lt (Nat.le_of_eq g194.symm))
          have Z206 : n0 ≤ h194.size := Nat.le_trans Z191 E194.1
          have Z207 : k186 ≤ h194.size := Nat.le_trans hk186 E194.1
          have RR209 := RR186.trans (CHr.ext E194 RR186.1)
          have F210 : Fld Z h194 a194 "com/example/narada/narada/ObjectAddress" "endpoint" "Ljava/lang/String;" .null := D194 (Or.inr (own_w hw 105 rfl)) (ty := (.object "java/lang/String")) (by decide)
          have F211 : Fld Z h194 a194 "com/example/narada/narada/ObjectAddress" "object" "J" (.long (0 : Int64)) := D194 (Or.inr (own_w hw 107 rfl)) (ty := .long) (by decide)
          have G194 : n0 ≤ a194 := Nat.le_trans Z191 (Nat.le_of_eq g194.symm)
          refine Goes.on (T' := T194) (g' := (mkF m 60 #[.val (.int x0), .val (.int x1), .val (.long x2), .second, .val (.long x3), .second, .val (.int x4), .val (.ref r156), .val (.ref r164), .val (.long z171), .second, .val (.ref a172), .unset, .unset, .unset] [(.long z171), (.ref r164), (.ref a194), (.ref a194)])) (fun _ k => st194 _ (XS.dup X194.here hx rfl (hb hby at_55) rfl rfl (XS.aload X194.here hx rfl (hb hby at_56) rfl rfl (XS.lload X194.here hx rfl (hb hby at_58) rfl k)))) ?_
          refine Goes.callCW X194 hx hZ186 hS186 Z207 hEL RR209.1 1 rfl hown186 (own_w hw 40 rfl) (own_w hw 41 rfl) (own_w hw 39 rfl) (own_w hw 42 rfl) (by decide) e194 (rmOa_1 l Z a0 hw a194 r164 z171 h194 n0 Z206 A194 G194 F210 F211 hEL C195 cs SC hcs b164 kb164 (c0164.toInt8.toInt32) C197 (fun q => no164 (own_b46 hc0164 q)) (fun q => q) (own_b47 hc0164) (own_b0 hc0164)) (by decide) (by decide) (by decide) (by decide) rfl (by rw [hml]; rfl) (a := a194) (argsL := [(.ref r164), (.long z171)]) (rest := [(.ref a194)]) rfl (lenOf pd_15 rfl) rfl (by show 2 * 0 + _ ≤ _; exact Nat.le_of_eq rfl) (hb hby at_60) ?_
          intro v212 T212 L212 k212 X212 hS212 hk212 hZ212 hown212 R212 hQ212
          obtain ⟨rfl, N212q, K212, A212, B212_endpoint, B212_object⟩ := hQ212
          have N212 := Fr.app N186 N212q
          show Goes p e below _ T212 (mkF m 63 #[.val (.int x0), .val (.int x1), .val (.long x2), .second, .val (.long x3), .second, .val (.int x4), .val (.ref r156), .val (.ref r164), .val (.long z171), .second, .val (.ref a172), .unset, .unset, .unset] [(.ref a194)])
          have RR212 := RR209.trans R212
          have C213 := C195.keep K212 (allS G194 all0)
          have C214 := C196.keep K212 (ninS ne201 nin0) (ninS ne202 nin0)
          have C215 := C197.keep K212 (ninS ne203 nin0) (ninS ne204 nin0)
          have C216 := C198.keep K212
          have C217 := C199.keep K212 (ninS ne205 nin0)
          have C218 := C200.keep K212 (ninS ne205 nin0)
          have Z220 : n0 ≤ T212.heap.size := Nat.le_trans Z206 K212.1
          refine Goes.on (T' := T212) (g' := (mkF m 75 #[.val (.int x0), .val (.int x1), .val (.long x2), .second, .val (.long x3), .second, .val (.int x4), .val (.ref r156), .val (.ref r164), .val (.long z171), .second, .val (.ref a172), .val (.ref a194), .val (.int ((x4.toUInt32 >>> ((2 : Int32) &&& 31).toUInt32).toInt32 &&& (3 : Int32))), .unset] [(.int ((x4.toUInt32 >>> ((2 : Int32) &&& 31).toUInt32).toInt32 &&& (3 : Int32)))])) (fun _ k => XS.astore X212.here hx rfl (hb hby at_63) rfl rfl (l' := #[.val (.int x0), .val (.int x1), .val (.long x2), .second, .val (.long x3), .second, .val (.int x4), .val (.ref r156), .val (.ref r164), .val (.long z171), .second, .val (.ref a172), .val (.ref a194), .unset, .unset]) rfl (XS.iload X212.here hx rfl (hb hby at_65) rfl (XS.iconst X212.here hx rfl (hb hby at_67) (XS.iushr X212.here hx rfl (hb hby at_68) rfl (XS.iconst X212.here hx rfl (hb hby at_69) (XS.iand X212.here hx rfl (hb hby at_70) rfl (XS.istore X212.here hx rfl (hb hby at_71) rfl (l' := #[.val (.int x0), .val (.int x1), .val (.long x2), .second, .val (.long x3), .second, .val (.int x4), .val (.ref r156), .val (.ref r164), .val (.long z171), .second, .val (.ref a172), .val (.ref a194), .val (.int ((x4.toUInt32 >>> ((2 : Int32) &&& 31).toUInt32).toInt32 &&& (3 : Int32))), .unset]) rfl (XS.iload X212.here hx rfl (hb hby at_73) rfl k)))))))) ?_
          by_cases hc223 : ((x4.toUInt32 >>> ((2 : Int32) &&& 31).toUInt32).toInt32 &&& (3 : Int32)) = (0 : Int32)
          · refine Goes.on (T' := T212) (g' := (mkF m 81 #[.val (.int x0), .val (.int x1), .val (.long x2), .second, .val (.long x3), .second, .val (.int x4), .val (.ref r156), .val (.ref r164), .val (.long z171), .second, .val (.ref a172), .val (.ref a194), .val (.int ((x4.toUInt32 >>> ((2 : Int32) &&& 31).toUInt32).toInt32 &&& (3 : Int32))), .unset] [.null, (.ref a172)])) (fun _ k => XS.ifNo X212.here hx rfl (hb hby at_75) rfl (XT.i0_ne_f hc223) (XS.aload X212.here hx rfl (hb hby at_78) rfl rfl (XS.aconstNull X212.here hx rfl (hb hby at_80) k))) ?_
            refine Goes.callV X212 hx hZ212 0 hown212 (own_w hw 108 rfl) (own_w hw 109 rfl) (notFace_of_selects (args := #[]) (mvT hZ212 (own_w hw 111 rfl))) (own_w hw 111 rfl) (own_w hw 110 rfl) (own_w hw 39 rfl) (own_w hw 112 rfl) (by decide) rfl C216 (rmOeN l Z a0 hw a172 T212.heap n0 Z220) (by decide) (by decide) (by decide) (by decide) rfl (by rw [hml]; rfl) (argsL := [.null]) (rest := []) rfl (lenOf pd_7 rfl) rfl (by show 2 * 0 + _ ≤ _; exact Nat.le_of_eq rfl) (hb hby at_81) ?_
            intro v224 T224 L224 X224 hQ224
            obtain ⟨rfl, N224q, e224⟩ := hQ224
            have N224 := Fr.app N212 N224q
            show Goes p e below _ T224 (mkF m 84 #[.val (.int x0), .val (.int x1), .val (.long x2), .second, .val (.long x3), .second, .val (.int x4), .val (.ref r156), .val (.ref r164), .val (.long z171), .second, .val (.ref a172), .val (.ref a194), .val (.int ((x4.toUInt32 >>> ((2 : Int32) &&& 31).toUInt32).toInt32 &&& (3 : Int32))), .unset] [(.int (0 : Int32))])
            refine Goes.on (T' := T224) (g' := (mkF m 92 #[.val (.int x0), .val (.int x1), .val (.long x2), .second, .val (.long x3), .second, .val (.int x4), .val (.ref r156), .val (.ref r164), .val (.long z171), .second, .val (.ref a172), .val (.ref a194), .val (.int ((x4.toUInt32 >>> ((2 : Int32) &&& 31).toUInt32).toInt32 &&& (3 : Int32))), .unset] [(.int (1 : Int32))])) (fun _ k => XS.ifNo X224.here hx rfl (hb hby at_84) rfl (XT.i0_ne_f (by decide)) (XS.iconst X224.here hx rfl (hb hby at_87) (XS.goto X224.here hx rfl (pc0 := 88) (pc' := 92) rfl (hb hby at_88) (by decide) (by decide) k))) ?_
            exact Goes.retBW X224 hS212 (by rw [e224]; exact hk212) hZ212 hEL (by rw [e224]; exact RR212) hx hlk hret (Or.inr rfl) (hb hby at_92) (by decide) (by decide) ⟨rfl, N224⟩
          · refine Goes.on (T' := T212) (g' := (mkF m 96 #[.val (.int x0), .val (.int x1), .val (.long x2), .second, .val (.long x3), .second, .val (.int x4), .val (.ref r156), .val (.ref r164), .val (.long z171), .second, .val (.ref a172), .val (.ref a194), .val (.int ((x4.toUInt32 >>> ((2 : Int32) &&& 31).toUInt32).toInt32 &&& (3 : Int32))), .unset] [(.int (1 : Int32)), (.int ((x4.toUInt32 >>> ((2 : Int32) &&& 31).toUInt32).toInt32 &&& (3 : Int32)))])) (fun _ k => XS.ifYes X212.here hx rfl (pc0 := 75) (pc' := 93) rfl (hb hby at_75) rfl (XT.i0_ne_t hc223) (by decide) (by decide) (XS.iload X212.here hx rfl (hb hby at_93) rfl (XS.iconst X212.here hx rfl (hb hby at_95) k))) ?_
            by_cases hc225 : ((x4.toUInt32 >>> ((2 : Int32) &&& 31).toUInt32).toInt32 &&& (3 : Int32)) = (1 : Int32)
            · refine Goes.on (T' := T212) (g' := (mkF m 107 #[.val (.int x0), .val (.int x1), .val (.long x2), .second, .val (.long x3), .second, .val (.int x4), .val (.ref r156), .val (.ref r164), .val (.long z171), .second, .val (.ref a172), .val (.ref a194), .val (.int ((x4.toUInt32 >>> ((2 : Int32) &&& 31).toUInt32).toInt32 &&& (3 : Int32))), .val (.ref r164)] [(.ref r164), (.ref a172)])) (fun _ k => XS.icmpNo X212.here hx rfl (hb hby at_96) rfl (XT.ii_ne_f hc225) (XS.aload X212.here hx rfl (hb hby at_99) rfl rfl (XS.astore X212.here hx rfl (hb hby at_101) rfl rfl (l' := #[.val (.int x0), .val (.int x1), .val (.long x2), .second, .val (.long x3), .second, .val (.int x4), .val (.ref r156), .val (.ref r164), .val (.long z171), .second, .val (.ref a172), .val (.ref a194), .val (.int ((x4.toUInt32 >>> ((2 : Int32) &&& 31).toUInt32).toInt32 &&& (3 : Int32))), .val (.ref r164)]) rfl (XS.aload X212.here hx rfl (hb hby at_103) rfl rfl (XS.aload X212.here hx rfl (hb hby at_105) rfl rfl k))))) ?_
              refine Goes.callV X212 hx hZ212 0 hown212 (own_w hw 108 rfl) (own_w hw 109 rfl) (notFace_of_selects (args := #[]) (mvT hZ212 (own_w hw 111 rfl))) (own_w hw 111 rfl) (own_w hw 110 rfl) (own_w hw 39 rfl) (own_w hw 112 rfl) (by decide) rfl C216 (rmOeS l Z a0 hw a172 r164 T212.heap n0 Z220 (C215).1) (by decide) (by decide) (by decide) (by decide) rfl (by rw [hml]; rfl) (argsL := [(.ref r164)]) (rest := []) rfl (lenOf pd_7 rfl) rfl (by show 2 * 0 + _ ≤ _; exact Nat.le_of_eq rfl) (hb hby at_107) ?_
              intro v226 T226 L226 X226 hQ226
              obtain ⟨rfl, N226q, e226⟩ := hQ226
              have N226 := Fr.app N212 N226q
              show Goes p e below _ T226 (mkF m 110 #[.val (.int x0), .val (.int x1), .val (.long x2), .second, .val (.long x3), .second, .val (.int x4), .val (.ref r156), .val (.ref r164), .val (.long z171), .second, .val (.ref a172), .val (.ref a194), .val (.int ((x4.toUInt32 >>> ((2 : Int32) &&& 31).toUInt32).toInt32 &&& (3 : Int32))), .val (.ref r164)] [(.int (0 : Int32))])
              refine Goes.on (T' := T226) (g' := (mkF m 118 #[.val (.int x0), .val (.int x1), .val (.long x2), .second, .val (.long x3), .second, .val (.int x4), .val (.ref r156), .val (.ref r164), .val (.long z171), .second, .val (.ref a172), .val (.ref a194), .val (.int ((x4.toUInt32 >>> ((2 : Int32) &&& 31).toUInt32).toInt32 &&& (3 : Int32))), .val (.ref r164)] [(.int (1 : Int32))])) (fun _ k => XS.ifNo X226.here hx rfl (hb hby at_110) rfl (XT.i0_ne_f (by decide)) (XS.iconst X226.here hx rfl (hb hby at_113) (XS.goto X226.here hx rfl (pc0 := 114) (pc' := 118) rfl (hb hby at_114) (by decide) (by decide) k))) ?_
              exact Goes.retBW X226 hS212 (by rw [e226]; exact hk212) hZ212 hEL (by rw [e226]; exact RR212) hx hlk hret (Or.inr rfl) (hb hby at_118) (by decide) (by decide) ⟨rfl, N226⟩
            · refine Goes.on (T' := T212) (g' := (mkF m 122 #[.val (.int x0), .val (.int x1), .val (.long x2), .second, .val (.long x3), .second, .val (.int x4), .val (.ref r156), .val (.ref r164), .val (.long z171), .second, .val (.ref a172), .val (.ref a194), .val (.int ((x4.toUInt32 >>> ((2 : Int32) &&& 31).toUInt32).toInt32 &&& (3 : Int32))), .unset] [(.int (2 : Int32)), (.int ((x4.toUInt32 >>> ((2 : Int32) &&& 31).toUInt32).toInt32 &&& (3 : Int32)))])) (fun _ k => XS.icmpYes X212.here hx rfl (pc0 := 96) (pc' := 119) rfl (hb hby at_96) rfl (XT.ii_ne_t hc225) (by decide) (by decide) (XS.iload X212.here hx rfl (hb hby at_119) rfl (XS.iconst X212.here hx rfl (hb hby at_121) k))) ?_
              by_cases hc227 : ((x4.toUInt32 >>> ((2 : Int32) &&& 31).toUInt32).toInt32 &&& (3 : Int32)) = (2 : Int32)
              · refine Goes.on (T' := T212) (g' := (mkF m 129 #[.val (.int x0), .val (.int x1), .val (.long x2), .second, .val (.long x3), .second, .val (.int x4), .val (.ref r156), .val (.ref r164), .val (.long z171), .second, .val (.ref a172), .val (.ref a194), .val (.int ((x4.toUInt32 >>> ((2 : Int32) &&& 31).toUInt32).toInt32 &&& (3 : Int32))), .unset] [(.ref a172), (.ref a172)])) (fun _ k => XS.icmpNo X212.here hx rfl (hb hby at_122) rfl (XT.ii_ne_f hc227) (XS.aload X212.here hx rfl (hb hby at_125) rfl rfl (XS.aload X212.here hx rfl (hb hby at_127) rfl rfl k))) ?_
                refine Goes.callV X212 hx hZ212 0 hown212 (own_w hw 108 rfl) (own_w hw 109 rfl) (notFace_of_selects (args := #[]) (mvT hZ212 (own_w hw 111 rfl))) (own_w hw 111 rfl) (own_w hw 110 rfl) (own_w hw 39 rfl) (own_w hw 112 rfl) (by decide) rfl C216 (rmOe22 l Z a0 hw a172 a172 (c0156.toInt8.toInt32) (c1156.toInt8.toInt32) (c0156.toInt8.toInt32) (c1156.toInt8.toInt32) T212.heap n0 Z220 C213 cs SC hcs r156 r156 b156 b156 kb156 kb156 x2 x2 C216 C217 C218 C216 C217 C218 C214 C214 (1 : Int32) (Or.inr rfl) (own_T ⟨⟨rfl, rfl⟩, rfl⟩)) (by decide) (by decide) (by decide) (by decide) rfl (by rw [hml]; rfl) (argsL := [(.ref a172)]) (rest := []) rfl (lenOf pd_7 rfl) rfl (by show 2 * 0 + _ ≤ _; exact Nat.le_of_eq rfl) (hb hby at_129) ?_
                intro v228 T228 L228 X228 hQ228
                obtain ⟨rfl, N228q, e228⟩ := hQ228
                have N228 := Fr.app N212 N228q
                show Goes p e below _ T228 (mkF m 132 #[.val (.int x0), .val (.int x1), .val (.long x2), .second, .val (.long x3), .second, .val (.int x4), .val (.ref r156), .val (.ref r164), .val (.long z171), .second, .val (.ref a172), .val (.ref a194), .val (.int ((x4.toUInt32 >>> ((2 : Int32) &&& 31).toUInt32).toInt32 &&& (3 : Int32))), .unset] [(.int (1 : Int32))])
                exact Goes.retBW X228 hS212 (by rw [e228]; exact hk212) hZ212 hEL (by rw [e228]; exact RR212) hx hlk hret (Or.inr rfl) (hb hby at_132) (by decide) (by decide) ⟨rfl, N228⟩
              · refine Goes.on (T' := T212) (g' := (mkF m 137 #[.val (.int x0), .val (.int x1), .val (.long x2), .second, .val (.long x3), .second, .val (.int x4), .val (.ref r156), .val (.ref r164), .val (.long z171), .second, .val (.ref a172), .val (.ref a194), .val (.int ((x4.toUInt32 >>> ((2 : Int32) &&& 31).toUInt32).toInt32 &&& (3 : Int32))), .unset] [(.ref r164), (.ref r156)])) (fun _ k => XS.icmpYes X212.here hx rfl (pc0 := 122) (pc' := 133) rfl (hb hby at_122) rfl (XT.ii_ne_t hc227) (by decide) (by decide) (XS.aload X212.here hx rfl (hb hby at_133) rfl rfl (XS.aload X212.here hx rfl (hb hby at_135) rfl rfl k))) ?_
                refine Goes.callS X212 hx hZ212 0 hown212 (own_w hw 116 rfl) (own_w hw 117 rfl) (own_w hw 2 rfl) (own_w hw 118 rfl) (by decide) rfl (rmSs21 l Z a0 hw r156 r164 c0156 c1156 c0164 T212.heap n0 Z220 C213 cs SC hcs sf SF hsf b156 b164 kb156 kb164 C214 C215 hc0156 hc1156 hc0164 (0 : Int32) (Or.inl rfl) (own_F (fun q => q))) (by decide) (by decide) (by decide) (by decide) rfl (by rw [hml]; rfl) (argsL := [(.ref r156), (.ref r164)]) (rest := []) rfl (lenOf pd_16 rfl) rfl (by show 2 * 0 + _ ≤ _; exact Nat.le_of_eq rfl) (hb hby at_137) ?_
                intro v229 T229 L229 X229 hQ229
                obtain ⟨rfl, N229q, e229⟩ := hQ229
                have N229 := Fr.app N212 N229q
                show Goes p e below _ T229 (mkF m 140 #[.val (.int x0), .val (.int x1), .val (.long x2), .second, .val (.long x3), .second, .val (.int x4), .val (.ref r156), .val (.ref r164), .val (.long z171), .second, .val (.ref a172), .val (.ref a194), .val (.int ((x4.toUInt32 >>> ((2 : Int32) &&& 31).toUInt32).toInt32 &&& (3 : Int32))), .unset] [(.int (0 : Int32))])
                refine Goes.on (T' := T229) (g' := (mkF m 161 #[.val (.int x0), .val (.int x1), .val (.long x2), .second, .val (.long x3), .second, .val (.int x4), .val (.ref r156), .val (.ref r164), .val (.long z171), .second, .val (.ref a172), .val (.ref a194), .val (.int ((x4.toUInt32 >>> ((2 : Int32) &&& 31).toUInt32).toInt32 &&& (3 : Int32))), .val (.int (0 : Int32))] [(.ref a194), (.ref a172)])) (fun _ k => XS.ifYes X229.here hx rfl (pc0 := 140) (pc' := 154) rfl (hb hby at_140) rfl (XT.i0_eq_t (by decide)) (by decide) (by decide) (XS.iconst X229.here hx rfl (hb hby at_154) (XS.istore X229.here hx rfl (hb hby at_155) rfl (l' := #[.val (.int x0), .val (.int x1), .val (.long x2), .second, .val (.long x3), .second, .val (.int x4), .val (.ref r156), .val (.ref r164), .val (.long z171), .second, .val (.ref a172), .val (.ref a194), .val (.int ((x4.toUInt32 >>> ((2 : Int32) &&& 31).toUInt32).toInt32 &&& (3 : Int32))), .val (.int (0 : Int32))]) rfl (XS.aload X229.here hx rfl (hb hby at_157) rfl rfl (XS.aload X229.here hx rfl (hb hby at_159) rfl rfl k))))) ?_
                refine Goes.callV X229 hx hZ212 0 hown212 (own_w hw 108 rfl) (own_w hw 109 rfl) (notFace_of_selects (args := #[]) (mvT hZ212 (own_w hw 111 rfl))) (own_w hw 111 rfl) (own_w hw 110 rfl) (own_w hw 39 rfl) (own_w hw 112 rfl) (by decide) e229 C216 (rmOe21 l Z a0 hw a172 a194 (c0156.toInt8.toInt32) (c1156.toInt8.toInt32) (c0164.toInt8.toInt32) T212.heap n0 Z220 C213 cs SC hcs r156 r164 b156 b164 kb156 kb164 x2 z171 C216 C217 C218 A212 B212_endpoint B212_object C214 C215 (0 : Int32) (Or.inl rfl) (own_F (fun q => q.1))) (by decide) (by decide) (by decide) (by decide) rfl (by rw [hml]; rfl) (argsL := [(.ref a194)]) (rest := []) rfl (lenOf pd_7 rfl) rfl (by show 2 * 0 + _ ≤ _; exact Nat.le_of_eq rfl) (hb hby at_161) ?_
                intro v230 T230 L230 X230 hQ230
                obtain ⟨rfl, N230q, e230⟩ := hQ230
                have N230 := Fr.app N229 N230q
                show Goes p e below _ T230 (mkF m 164 #[.val (.int x0), .val (.int x1), .val (.long x2), .second, .val (.long x3), .second, .val (.int x4), .val (.ref r156), .val (.ref r164), .val (.long z171), .second, .val (.ref a172), .val (.ref a194), .val (.int ((x4.toUInt32 >>> ((2 : Int32) &&& 31).toUInt32).toInt32 &&& (3 : Int32))), .val (.int (0 : Int32))] [(.int (0 : Int32))])
                refine Goes.on (T' := T230) (g' := (mkF m 173 #[.val (.int x0), .val (.int x1), .val (.long x2), .second, .val (.long x3), .second, .val (.int x4), .val (.ref r156), .val (.ref r164), .val (.long z171), .second, .val (.ref a172), .val (.ref a194), .val (.int ((x4.toUInt32 >>> ((2 : Int32) &&& 31).toUInt32).toInt32 &&& (3 : Int32))), .val (.int (0 : Int32))] [(.ref a172), (.ref a194)])) (fun _ k => XS.iload X230.here hx rfl (hb hby at_164) rfl (XS.icmpNo X230.here hx rfl (hb hby at_166) rfl (XT.ii_ne_f (by decide)) (XS.aload X230.here hx rfl (hb hby at_169) rfl rfl (XS.aload X230.here hx rfl (hb hby at_171) rfl rfl k)))) ?_
                refine Goes.callV X230 hx hZ212 0 hown212 (own_w hw 108 rfl) (own_w hw 109 rfl) (notFace_of_selects (args := #[]) (mvT hZ212 (own_w hw 111 rfl))) (own_w hw 111 rfl) (own_w hw 110 rfl) (own_w hw 39 rfl) (own_w hw 112 rfl) (by decide) e230 A212 (rmOe12 l Z a0 hw a194 a172 (c0164.toInt8.toInt32) (c0156.toInt8.toInt32) (c1156.toInt8.toInt32) T212.heap n0 Z220 C213 cs SC hcs r164 r156 b164 b156 kb164 kb156 z171 x2 A212 B212_endpoint B212_object C216 C217 C218 C215 C214 (0 : Int32) (Or.inl rfl) (own_F (fun q => q.1))) (by decide) (by decide) (by decide) (by decide) rfl (by rw [hml]; rfl) (argsL := [(.ref a172)]) (rest := []) rfl (lenOf pd_7 rfl) rfl (by show 2 * 0 + _ ≤ _; exact Nat.le_of_eq rfl) (hb hby at_173) ?_
                intro v231 T231 L231 X231 hQ231
                obtain ⟨rfl, N231q, e231⟩ := hQ231
                have N231 := Fr.app N230 N231q
                show Goes p e below _ T231 (mkF m 176 #[.val (.int x0), .val (.int x1), .val (.long x2), .second, .val (.long x3), .second, .val (.int x4), .val (.ref r156), .val (.ref r164), .val (.long z171), .second, .val (.ref a172), .val (.ref a194), .val (.int ((x4.toUInt32 >>> ((2 : Int32) &&& 31).toUInt32).toInt32 &&& (3 : Int32))), .val (.int (0 : Int32))] [(.int (0 : Int32))])
                refine Goes.on (T' := T231) (g' := (mkF m 186 #[.val (.int x0), .val (.int x1), .val (.long x2), .second, .val (.long x3), .second, .val (.int x4), .val (.ref r156), .val (.ref r164), .val (.long z171), .second, .val (.ref a172), .val (.ref a194), .val (.int ((x4.toUInt32 >>> ((2 : Int32) &&& 31).toUInt32).toInt32 &&& (3 : Int32))), .val (.int (0 : Int32))] [(.int (1 : Int32))])) (fun _ k => XS.iload X231.here hx rfl (hb hby at_176) rfl (XS.icmpNo X231.here hx rfl (hb hby at_178) rfl (XT.ii_ne_f (by decide)) (XS.iconst X231.here hx rfl (hb hby at_181) (XS.goto X231.here hx rfl (pc0 := 182) (pc' := 186) rfl (hb hby at_182) (by decide) (by decide) k)))) ?_
                exact Goes.retBW X231 hS212 (by rw [e231]; exact hk212) hZ212 hEL (by rw [e231]; exact RR212) hx hlk hret (Or.inr rfl) (hb hby at_186) (by decide) (by decide) ⟨rfl, N231⟩
        · intro J171
          refine Goes.on (T' := T164) (g' := (mkF m 29 #[.val (.int x0), .val (.int x1), .val (.long x2), .second, .val (.long x3), .second, .val (.int x4), .val (.ref r156), .val (.ref r164), .unset, .unset, .unset, .unset, .unset, .unset] [(.int (x4 &&& (2 : Int32)))])) (fun _ k => XS.iload X164.here hx rfl (hb hby at_25) rfl (XS.iconst X164.here hx rfl (hb hby at_27) (XS.iand X164.here hx rfl (hb hby at_28) rfl k))) ?_
          by_cases hc232 : (x4 &&& (2 : Int32)) = (0 : Int32)
          · refine Goes.on (T' := T164) (g' := (mkF m 38 #[.val (.int x0), .val (.int x1), .val (.long x2), .second, .val (.long x3), .second, .val (.int x4), .val (.ref r156), .val (.ref r164), .unset, .unset, .unset, .unset, .unset, .unset] [(.long x3)])) (fun _ k => XS.ifYes X164.here hx rfl (pc0 := 29) (pc' := 36) rfl (hb hby at_29) rfl (XT.i0_eq_t hc232) (by decide) (by decide) (XS.lload X164.here hx rfl (hb hby at_36) rfl k)) ?_
            exact J171 x3
          · refine Goes.on (T' := T164) (g' := (mkF m 38 #[.val (.int x0), .val (.int x1), .val (.long x2), .second, .val (.long x3), .second, .val (.int x4), .val (.ref r156), .val (.ref r164), .unset, .unset, .unset, .unset, .unset, .unset] [(.long x2)])) (fun _ k => XS.ifNo X164.here hx rfl (hb hby at_29) rfl (XT.i0_eq_f hc232) (XS.lloadN X164.here hx rfl (hb hby at_32) rfl (XS.goto X164.here hx rfl (pc0 := 33) (pc' := 38) rfl (hb hby at_33) (by decide) (by decide) k))) ?_
            exact J171 x2
      · refine Goes.callS X156 hx hZ 0 hown (own_w hw 0 rfl) (own_w hw 1 rfl) (own_w hw 2 rfl) (own_w hw 3 rfl) (by decide) rfl (rmMk2 l Z a0 hw z162 T156.heap n0 Z158 C157 cs SC hcs hc163) (by decide) (by decide) (by decide) (by decide) rfl (by rw [hml]; rfl) (argsL := [(.int z162)]) (rest := []) rfl (lenOf pd_14 rfl) rfl (by show 2 * 0 + _ ≤ _; exact Nat.le_of_eq rfl) (hb hby at_20) ?_
        intro v233 T233 L233 X233 hQ233
        obtain ⟨r233, b233, kb233, c0233, c1233, rfl, N233q, K233, mr233, mb233, Q233, hc0233, hc1233, no233⟩ := hQ233
        have N233 := Fr.app N156 N233q
        show Goes p e below _ T233 (mkF m 23 #[.val (.int x0), .val (.int x1), .val (.long x2), .second, .val (.long x3), .second, .val (.int x4), .val (.ref r156), .unset, .unset, .unset, .unset, .unset, .unset, .unset] [(.ref r233)])
        have C234 := C157.keep K233 all0
        have C235 := Q156.keep K233 nin0 nin0
        have Z236 : n0 ≤ T233.heap.size := Nat.le_trans Z158 K233.1
        have Z237 : 0 ≤ T233.heap.size := Nat.le_trans Z159 K233.1
        have RR239 := RR161.trans (CHr.keep K233 all0 RR161.1)
        refine Goes.on (T' := T233) (g' := (mkF m 25 #[.val (.int x0), .val (.int x1), .val (.long x2), .second, .val (.long x3), .second, .val (.int x4), .val (.ref r156), .val (.ref r233), .unset, .unset, .unset, .unset, .unset, .unset] [])) (fun _ k => XS.astore X233.here hx rfl (hb hby at_23) rfl rfl (l' := #[.val (.int x0), .val (.int x1), .val (.long x2), .second, .val (.long x3), .second, .val (.int x4), .val (.ref r156), .val (.ref r233), .unset, .unset, .unset, .unset, .unset, .unset]) rfl k) ?_
        refine Goes.joinJ (T' := T233) (fr := fun z240 => (mkF m 38 #[.val (.int x0), .val (.int x1), .val (.long x2), .second, .val (.long x3), .second, .val (.int x4), .val (.ref r156), .val (.ref r233), .unset, .unset, .unset, .unset, .unset, .unset] [(.long z240)])) ?_ ?_
        · intro z240
          refine Goes.on (T' := T233) (g' := (mkF m 40 #[.val (.int x0), .val (.int x1), .val (.long x2), .second, .val (.long x3), .second, .val (.int x4), .val (.ref r156), .val (.ref r233), .val (.long z240), .second, .unset, .unset, .unset, .unset] [])) (fun _ k => XS.lstore X233.here hx rfl (hb hby at_38) rfl (l' := #[.val (.int x0), .val (.int x1), .val (.long x2), .second, .val (.long x3), .second, .val (.int x4), .val (.ref r156), .val (.ref r233), .val (.long z240), .second, .unset, .unset, .unset, .unset]) rfl k) ?_
          obtain ⟨T241, h241, X241, e241, E241, A241, D241, U241, st241⟩ := newO X233 hx hZ hown (own_w hw 37 rfl) (own_w hw 38 rfl) (own_w hw 39 rfl) rfl (g := (mkF m 40 #[.val (.int x0), .val (.int x1), .val (.long x2), .second, .val (.long x3), .second, .val (.int x4), .val (.ref r156), .val (.ref r233), .val (.long z240), .second, .unset, .unset, .unset, .unset] [])) rfl (hb hby at_40) (by decide) (by decide)
          obtain ⟨a241, g241⟩ : ∃ z, z = T233.heap.size := ⟨_, rfl⟩
          rw [← g241] at A241 D241 U241 st241
          have C242 := C234.ext E241
          have C243 := C235.ext E241
          have C244 := Q233.ext E241
          have ne245 : r156 ≠ a241 := Nat.ne_of_lt (Nat.lt_of_lt_of_le (C235.1.lt) (Nat.le_of_eq g241.symm))
          have ne246 : b156 ≠ a241 := Nat.ne_of_lt (Nat.lt_of_lt_of_le (C235.2.2.2.lt) (Nat.le_of_eq g241.symm))
          have ne247 : r233 ≠ a241 := Nat.ne_of_lt (Nat.lt_of_lt_of_le (Q233.1.lt) (Nat.le_of_eq g241.symm))
          have ne248 : b233 ≠ a241 := Nat.ne_of_lt (Nat.lt_of_lt_of_le (Q233.2.2.2.lt) (Nat.le_of_eq g241.symm))
          have Z249 : n0 ≤ h241.size := Nat.le_trans Z236 E241.1
          have Z250 : 0 ≤ h241.size := Nat.le_trans Z237 E241.1
          have RR252 := RR239.trans (CHr.ext E241 RR239.1)
          have F253 : Fld Z h241 a241 "com/example/narada/narada/ObjectAddress" "endpoint" "Ljava/lang/String;" .null := D241 (Or.inr (own_w hw 105 rfl)) (ty := (.object "java/lang/String")) (by decide)
          have F254 : Fld Z h241 a241 "com/example/narada/narada/ObjectAddress" "object" "J" (.long (0 : Int64)) := D241 (Or.inr (own_w hw 107 rfl)) (ty := .long) (by decide)
          have G241 : n0 ≤ a241 := Nat.le_trans Z236 (Nat.le_of_eq g241.symm)
          refine Goes.on (T' := T241) (g' := (mkF m 47 #[.val (.int x0), .val (.int x1), .val (.long x2), .second, .val (.long x3), .second, .val (.int x4), .val (.ref r156), .val (.ref r233), .val (.long z240), .second, .unset, .unset, .unset, .unset] [(.long x2), (.ref r156), (.ref a241), (.ref a241)])) (fun _ k => st241 _ (XS.dup X241.here hx rfl (hb hby at_43) rfl rfl (XS.aload X241.here hx rfl (hb hby at_44) rfl rfl (XS.lloadN X241.here hx rfl (hb hby at_46) rfl k)))) ?_
          refine Goes.callCW X241 hx hZ hS0 Z250 hEL RR252.1 1 rfl hown (own_w hw 40 rfl) (own_w hw 41 rfl) (own_w hw 39 rfl) (own_w hw 42 rfl) (by decide) e241 (rmOa_2 l Z a0 hw a241 r156 x2 h241 n0 Z249 A241 G241 F253 F254 hEL C242 cs SC hcs b156 kb156 (c0156.toInt8.toInt32) (c1156.toInt8.toInt32) C243 (fun q => q) (fun q => no156 ⟨own_b46 hc0156 q.1, own_b46 hc1156 q.2⟩) (own_b47 hc0156) (own_b47 hc1156) (own_b0 hc0156) (own_b0 hc1156)) (by decide) (by decide) (by decide) (by decide) rfl (by rw [hml]; rfl) (a := a241) (argsL := [(.ref r156), (.long x2)]) (rest := [(.ref a241)]) rfl (lenOf pd_15 rfl) rfl (by show 2 * 0 + _ ≤ _; exact Nat.le_of_eq rfl) (hb hby at_47) ?_
          intro v255 T255 L255 k255 X255 hS255 hk255 hZ255 hown255 R255 hQ255
          obtain ⟨rfl, N255q, K255, A255, B255_endpoint, B255_object⟩ := hQ255
          have N255 := Fr.app N233 N255q
          show Goes p e below _ T255 (mkF m 50 #[.val (.int x0), .val (.int x1), .val (.long x2), .second, .val (.long x3), .second, .val (.int x4), .val (.ref r156), .val (.ref r233), .val (.long z240), .second, .unset, .unset, .unset, .unset] [(.ref a241)])
          have RR255 := RR252.trans R255
          have C256 := C242.keep K255 (allS G241 all0)
          have C257 := C243.keep K255 (ninS ne245 nin0) (ninS ne246 nin0)
          have C258 := C244.keep K255 (ninS ne247 nin0) (ninS ne248 nin0)
          have Z260 : n0 ≤ T255.heap.size := Nat.le_trans Z249 K255.1
          refine Goes.on (T' := T255) (g' := (mkF m 52 #[.val (.int x0), .val (.int x1), .val (.long x2), .second, .val (.long x3), .second, .val (.int x4), .val (.ref r156), .val (.ref r233), .val (.long z240), .second, .val (.ref a241), .unset, .unset, .unset] [])) (fun _ k => XS.astore X255.here hx rfl (hb hby at_50) rfl rfl (l' := #[.val (.int x0), .val (.int x1), .val (.long x2), .second, .val (.long x3), .second, .val (.int x4), .val (.ref r156), .val (.ref r233), .val (.long z240), .second, .val (.ref a241), .unset, .unset, .unset]) rfl k) ?_
          obtain ⟨T263, h263, X263, e263, E263, A263, D263, U263, st263⟩ := newO X255 hx hZ255 hown255 (own_w hw 37 rfl) (own_w hw 38 rfl) (own_w hw 39 rfl) rfl (g := (mkF m 52 #[.val (.int x0), .val (.int x1), .val (.long x2), .second, .val (.long x3), .second, .val (.int x4), .val (.ref r156), .val (.ref r233), .val (.long z240), .second, .val (.ref a241), .unset, .unset, .unset] [])) rfl (hb hby at_52) (by decide) (by decide)
          obtain ⟨a263, g263⟩ : ∃ z, z = T255.heap.size := ⟨_, rfl⟩
          rw [← g263] at A263 D263 U263 st263
          have C264 := C256.ext E263
          have C265 := C257.ext E263
          have C266 := C258.ext E263
          have C267 := A255.ext E263
          have C268 := B255_endpoint.ext E263
          have C269 := B255_object.ext E263
          have ne270 : r156 ≠ a263 := Nat.ne_of_lt (Nat.lt_of_lt_of_le (C257.1.lt) (Nat.le_of_eq g263.symm))
          have ne271 : b156 ≠ a263 := Nat.ne_of_lt (Nat.lt_of_lt_of_le (C257.2.2.2.lt) (Nat.le_of_eq g263.symm))
          have ne272 : r233 ≠ a263 := Nat.ne_of_lt (Nat.lt_of_lt_of_le (C258.1.lt) (Nat.le_of_eq g263.symm))
          have ne273 : b233 ≠ a263 := Nat.ne_of_lt (Nat.lt_of_lt_of_le (C258.2.2.2.lt) (Nat.le_of_eq g263.symm))
          have ne274 : a241 ≠ a263 := Nat.ne_of_lt (Nat.lt_of_lt_of_le (A255).lt (Nat.le_of_eq g263.symm))
          have Z275 : n0 ≤ h263.size := Nat.le_trans Z260 E263.1
          have Z276 : k255 ≤ h263.size := Nat.le_trans hk255 E263.1
          have RR278 := RR255.trans (CHr.ext E263 RR255.1)
          have F279 : Fld Z h263 a263 "com/example/narada/narada/ObjectAddress" "endpoint" "Ljava/lang/String;" .null := D263 (Or.inr (own_w hw 105 rfl)) (ty := (.object "java/lang/String")) (by decide)
          have F280 : Fld Z h263 a263 "com/example/narada/narada/ObjectAddress" "object" "J" (.long (0 : Int64)) := D263 (Or.inr (own_w hw 107 rfl)) (ty := .long) (by decide)
          have G263 : n0 ≤ a263 := Nat.le_trans Z260 (Nat.le_of_eq g263.symm)
          refine Goes.on (T' := T263) (g' := (mkF m 60 #[.val (.int x0), .val (.int x1), .val (.long x2), .second, .val (.long x3), .second, .val (.int x4), .val (.ref r156), .val (.ref r233), .val (.long z240), .second, .val (.ref a241), .unset, .unset, .unset] [(.long z240), (.ref r233), (.ref a263), (.ref a263)])) (fun _ k => st263 _ (XS.dup X263.here hx rfl (hb hby at_55) rfl rfl (XS.aload X263.here hx rfl (hb hby at_56) rfl rfl (XS.lload X263.here hx rfl (hb hby at_58) rfl k)))) ?_
          refine Goes.callCW X263 hx hZ255 hS255 Z276 hEL RR278.1 1 rfl hown255 (own_w hw 40 rfl) (own_w hw 41 rfl) (own_w hw 39 rfl) (own_w hw 42 rfl) (by decide) e263 (rmOa_2 l Z a0 hw a263 r233 z240 h263 n0 Z275 A263 G263 F279 F280 hEL C264 cs SC hcs b233 kb233 (c0233.toInt8.toInt32) (c1233.toInt8.toInt32) C266 (fun q => q) (fun q => no233 ⟨own_b46 hc0233 q.1, own_b46 hc1233 q.2⟩) (own_b47 hc0233) (own_b47 hc1233) (own_b0 hc0233) (own_b0 hc1233)) (by decide) (by decide) (by decide) (by decide) rfl (by rw [hml]; rfl) (a := a263) (argsL := [(.ref r233), (.long z240)]) (rest := [(.ref a263)]) rfl (lenOf pd_15 rfl) rfl (by show 2 * 0 + _ ≤ _; exact Nat.le_of_eq rfl) (hb hby at_60) ?_
          intro v281 T281 L281 k281 X281 hS281 hk281 hZ281 hown281 R281 hQ281
          obtain ⟨rfl, N281q, K281, A281, B281_endpoint, B281_object⟩ := hQ281
          have N281 := Fr.app N255 N281q
          show Goes p e below _ T281 (mkF m 63 #[.val (.int x0), .val (.int x1), .val (.long x2), .second, .val (.long x3), .second, .val (.int x4), .val (.ref r156), .val (.ref r233), .val (.long z240), .second, .val (.ref a241), .unset, .unset, .unset] [(.ref a263)])
          have RR281 := RR278.trans R281
          have C282 := C264.keep K281 (allS G263 all0)
          have C283 := C265.keep K281 (ninS ne270 nin0) (ninS ne271 nin0)
          have C284 := C266.keep K281 (ninS ne272 nin0) (ninS ne273 nin0)
          have C285 := C267.keep K281
          have C286 := C268.keep K281 (ninS ne274 nin0)
          have C287 := C269.keep K281 (ninS ne274 nin0)
          have Z289 : n0 ≤ T281.heap.size := Nat.le_trans Z275 K281.1
          refine Goes.on (T' := T281) (g' := (mkF m 75 #[.val (.int x0), .val (.int x1), .val (.long x2), .second, .val (.long x3), .second, .val (.int x4), .val (.ref r156), .val (.ref r233), .val (.long z240), .second, .val (.ref a241), .val (.ref a263), .val (.int ((x4.toUInt32 >>> ((2 : Int32) &&& 31).toUInt32).toInt32 &&& (3 : Int32))), .unset] [(.int ((x4.toUInt32 >>> ((2 : Int32) &&& 31).toUInt32).toInt32 &&& (3 : Int32)))])) (fun _ k => XS.astore X281.here hx rfl (hb hby at_63) rfl rfl (l' := #[.val (.int x0), .val (.int x1), .val (.long x2), .second, .val (.long x3), .second, .val (.int x4), .val (.ref r156), .val (.ref r233), .val (.long z240), .second, .val (.ref a241), .val (.ref a263), .unset, .unset]) rfl (XS.iload X281.here hx rfl (hb hby at_65) rfl (XS.iconst X281.here hx rfl (hb hby at_67) (XS.iushr X281.here hx rfl (hb hby at_68) rfl (XS.iconst X281.here hx rfl (hb hby at_69) (XS.iand X281.here hx rfl (hb hby at_70) rfl (XS.istore X281.here hx rfl (hb hby at_71) rfl (l' := #[.val (.int x0), .val (.int x1), .val (.long x2), .second, .val (.long x3), .second, .val (.int x4), .val (.ref r156), .val (.ref r233), .val (.long z240), .second, .val (.ref a241), .val (.ref a263), .val (.int ((x4.toUInt32 >>> ((2 : Int32) &&& 31).toUInt32).toInt32 &&& (3 : Int32))), .unset]) rfl (XS.iload X281.here hx rfl (hb hby at_73) rfl k)))))))) ?_
          by_cases hc292 : ((x4.toUInt32 >>> ((2 : Int32) &&& 31).toUInt32).toInt32 &&& (3 : Int32)) = (0 : Int32)
          · refine Goes.on (T' := T281) (g' := (mkF m 81 #[.val (.int x0), .val (.int x1), .val (.long x2), .second, .val (.long x3), .second, .val (.int x4), .val (.ref r156), .val (.ref r233), .val (.long z240), .second, .val (.ref a241), .val (.ref a263), .val (.int ((x4.toUInt32 >>> ((2 : Int32) &&& 31).toUInt32).toInt32 &&& (3 : Int32))), .unset] [.null, (.ref a241)])) (fun _ k => XS.ifNo X281.here hx rfl (hb hby at_75) rfl (XT.i0_ne_f hc292) (XS.aload X281.here hx rfl (hb hby at_78) rfl rfl (XS.aconstNull X281.here hx rfl (hb hby at_80) k))) ?_
            refine Goes.callV X281 hx hZ281 0 hown281 (own_w hw 108 rfl) (own_w hw 109 rfl) (notFace_of_selects (args := #[]) (mvT hZ281 (own_w hw 111 rfl))) (own_w hw 111 rfl) (own_w hw 110 rfl) (own_w hw 39 rfl) (own_w hw 112 rfl) (by decide) rfl C285 (rmOeN l Z a0 hw a241 T281.heap n0 Z289) (by decide) (by decide) (by decide) (by decide) rfl (by rw [hml]; rfl) (argsL := [.null]) (rest := []) rfl (lenOf pd_7 rfl) rfl (by show 2 * 0 + _ ≤ _; exact Nat.le_of_eq rfl) (hb hby at_81) ?_
            intro v293 T293 L293 X293 hQ293
            obtain ⟨rfl, N293q, e293⟩ := hQ293
            have N293 := Fr.app N281 N293q
            show Goes p e below _ T293 (mkF m 84 #[.val (.int x0), .val (.int x1), .val (.long x2), .second, .val (.long x3), .second, .val (.int x4), .val (.ref r156), .val (.ref r233), .val (.long z240), .second, .val (.ref a241), .val (.ref a263), .val (.int ((x4.toUInt32 >>> ((2 : Int32) &&& 31).toUInt32).toInt32 &&& (3 : Int32))), .unset] [(.int (0 : Int32))])
            refine Goes.on (T' := T293) (g' := (mkF m 92 #[.val (.int x0), .val (.int x1), .val (.long x2), .second, .val (.long x3), .second, .val (.int x4), .val (.ref r156), .val (.ref r233), .val (.long z240), .second, .val (.ref a241), .val (.ref a263), .val (.int ((x4.toUInt32 >>> ((2 : Int32) &&& 31).toUInt32).toInt32 &&& (3 : Int32))), .unset] [(.int (1 : Int32))])) (fun _ k => XS.ifNo X293.here hx rfl (hb hby at_84) rfl (XT.i0_ne_f (by decide)) (XS.iconst X293.here hx rfl (hb hby at_87) (XS.goto X293.here hx rfl (pc0 := 88) (pc' := 92) rfl (hb hby at_88) (by decide) (by decide) k))) ?_
            exact Goes.retBW X293 hS281 (by rw [e293]; exact hk281) hZ281 hEL (by rw [e293]; exact RR281) hx hlk hret (Or.inr rfl) (hb hby at_92) (by decide) (by decide) ⟨rfl, N293⟩
          · refine Goes.on (T' := T281) (g' := (mkF m 96 #[.val (.int x0), .val (.int x1), .val (.long x2), .second, .val (.long x3), .second, .val (.int x4), .val (.ref r156), .val (.ref r233), .val (.long z240), .second, .val (.ref a241), .val (.ref a263), .val (.int ((x4.toUInt32 >>> ((2 : Int32) &&& 31).toUInt32).toInt32 &&& (3 : Int32))), .unset] [(.int (1 : Int32)), (.int ((x4.toUInt32 >>> ((2 : Int32) &&& 31).toUInt32).toInt32 &&& (3 : Int32)))])) (fun _ k => XS.ifYes X281.here hx rfl (pc0 := 75) (pc' := 93) rfl (hb hby at_75) rfl (XT.i0_ne_t hc292) (by decide) (by decide) (XS.iload X281.here hx rfl (hb hby at_93) rfl (XS.iconst X281.here hx rfl (hb hby at_95) k))) ?_
            by_cases hc294 : ((x4.toUInt32 >>> ((2 : Int32) &&& 31).toUInt32).toInt32 &&& (3 : Int32)) = (1 : Int32)
            · refine Goes.on (T' := T281) (g' := (mkF m 107 #[.val (.int x0), .val (.int x1), .val (.long x2), .second, .val (.long x3), .second, .val (.int x4), .val (.ref r156), .val (.ref r233), .val (.long z240), .second, .val (.ref a241), .val (.ref a263), .val (.int ((x4.toUInt32 >>> ((2 : Int32) &&& 31).toUInt32).toInt32 &&& (3 : Int32))), .val (.ref r233)] [(.ref r233), (.ref a241)])) (fun _ k => XS.icmpNo X281.here hx rfl (hb hby at_96) rfl (XT.ii_ne_f hc294) (XS.aload X281.here hx rfl (hb hby at_99) rfl rfl (XS.astore X281.here hx rfl (hb hby at_101) rfl rfl (l' := #[.val (.int x0), .val (.int x1), .val (.long x2), .second, .val (.long x3), .second, .val (.int x4), .val (.ref r156), .val (.ref r233), .val (.long z240), .second, .val (.ref a241), .val (.ref a263), .val (.int ((x4.toUInt32 >>> ((2 : Int32) &&& 31).toUInt32).toInt32 &&& (3 : Int32))), .val (.ref r233)]) rfl (XS.aload X281.here hx rfl (hb hby at_103) rfl rfl (XS.aload X281.here hx rfl (hb hby at_105) rfl rfl k))))) ?_
              refine Goes.callV X281 hx hZ281 0 hown281 (own_w hw 108 rfl) (own_w hw 109 rfl) (notFace_of_selects (args := #[]) (mvT hZ281 (own_w hw 111 rfl))) (own_w hw 111 rfl) (own_w hw 110 rfl) (own_w hw 39 rfl) (own_w hw 112 rfl) (by decide) rfl C285 (rmOeS l Z a0 hw a241 r233 T281.heap n0 Z289 (C284).1) (by decide) (by decide) (by decide) (by decide) rfl (by rw [hml]; rfl) (argsL := [(.ref r233)]) (rest := []) rfl (lenOf pd_7 rfl) rfl (by show 2 * 0 + _ ≤ _; exact Nat.le_of_eq rfl) (hb hby at_107) ?_
              intro v295 T295 L295 X295 hQ295
              obtain ⟨rfl, N295q, e295⟩ := hQ295
              have N295 := Fr.app N281 N295q
              show Goes p e below _ T295 (mkF m 110 #[.val (.int x0), .val (.int x1), .val (.long x2), .second, .val (.long x3), .second, .val (.int x4), .val (.ref r156), .val (.ref r233), .val (.long z240), .second, .val (.ref a241), .val (.ref a263), .val (.int ((x4.toUInt32 >>> ((2 : Int32) &&& 31).toUInt32).toInt32 &&& (3 : Int32))), .val (.ref r233)] [(.int (0 : Int32))])
              refine Goes.on (T' := T295) (g' := (mkF m 118 #[.val (.int x0), .val (.int x1), .val (.long x2), .second, .val (.long x3), .second, .val (.int x4), .val (.ref r156), .val (.ref r233), .val (.long z240), .second, .val (.ref a241), .val (.ref a263), .val (.int ((x4.toUInt32 >>> ((2 : Int32) &&& 31).toUInt32).toInt32 &&& (3 : Int32))), .val (.ref r233)] [(.int (1 : Int32))])) (fun _ k => XS.ifNo X295.here hx rfl (hb hby at_110) rfl (XT.i0_ne_f (by decide)) (XS.iconst X295.here hx rfl (hb hby at_113) (XS.goto X295.here hx rfl (pc0 := 114) (pc' := 118) rfl (hb hby at_114) (by decide) (by decide) k))) ?_
              exact Goes.retBW X295 hS281 (by rw [e295]; exact hk281) hZ281 hEL (by rw [e295]; exact RR281) hx hlk hret (Or.inr rfl) (hb hby at_118) (by decide) (by decide) ⟨rfl, N295⟩
            · refine Goes.on (T' := T281) (g' := (mkF m 122 #[.val (.int x0), .val (.int x1), .val (.long x2), .second, .val (.long x3), .second, .val (.int x4), .val (.ref r156), .val (.ref r233), .val (.long z240), .second, .val (.ref a241), .val (.ref a263), .val (.int ((x4.toUInt32 >>> ((2 : Int32) &&& 31).toUInt32).toInt32 &&& (3 : Int32))), .unset] [(.int (2 : Int32)), (.int ((x4.toUInt32 >>> ((2 : Int32) &&& 31).toUInt32).toInt32 &&& (3 : Int32)))])) (fun _ k => XS.icmpYes X281.here hx rfl (pc0 := 96) (pc' := 119) rfl (hb hby at_96) rfl (XT.ii_ne_t hc294) (by decide) (by decide) (XS.iload X281.here hx rfl (hb hby at_119) rfl (XS.iconst X281.here hx rfl (hb hby at_121) k))) ?_
              by_cases hc296 : ((x4.toUInt32 >>> ((2 : Int32) &&& 31).toUInt32).toInt32 &&& (3 : Int32)) = (2 : Int32)
              · refine Goes.on (T' := T281) (g' := (mkF m 129 #[.val (.int x0), .val (.int x1), .val (.long x2), .second, .val (.long x3), .second, .val (.int x4), .val (.ref r156), .val (.ref r233), .val (.long z240), .second, .val (.ref a241), .val (.ref a263), .val (.int ((x4.toUInt32 >>> ((2 : Int32) &&& 31).toUInt32).toInt32 &&& (3 : Int32))), .unset] [(.ref a241), (.ref a241)])) (fun _ k => XS.icmpNo X281.here hx rfl (hb hby at_122) rfl (XT.ii_ne_f hc296) (XS.aload X281.here hx rfl (hb hby at_125) rfl rfl (XS.aload X281.here hx rfl (hb hby at_127) rfl rfl k))) ?_
                refine Goes.callV X281 hx hZ281 0 hown281 (own_w hw 108 rfl) (own_w hw 109 rfl) (notFace_of_selects (args := #[]) (mvT hZ281 (own_w hw 111 rfl))) (own_w hw 111 rfl) (own_w hw 110 rfl) (own_w hw 39 rfl) (own_w hw 112 rfl) (by decide) rfl C285 (rmOe22 l Z a0 hw a241 a241 (c0156.toInt8.toInt32) (c1156.toInt8.toInt32) (c0156.toInt8.toInt32) (c1156.toInt8.toInt32) T281.heap n0 Z289 C282 cs SC hcs r156 r156 b156 b156 kb156 kb156 x2 x2 C285 C286 C287 C285 C286 C287 C283 C283 (1 : Int32) (Or.inr rfl) (own_T ⟨⟨rfl, rfl⟩, rfl⟩)) (by decide) (by decide) (by decide) (by decide) rfl (by rw [hml]; rfl) (argsL := [(.ref a241)]) (rest := []) rfl (lenOf pd_7 rfl) rfl (by show 2 * 0 + _ ≤ _; exact Nat.le_of_eq rfl) (hb hby at_129) ?_
                intro v297 T297 L297 X297 hQ297
                obtain ⟨rfl, N297q, e297⟩ := hQ297
                have N297 := Fr.app N281 N297q
                show Goes p e below _ T297 (mkF m 132 #[.val (.int x0), .val (.int x1), .val (.long x2), .second, .val (.long x3), .second, .val (.int x4), .val (.ref r156), .val (.ref r233), .val (.long z240), .second, .val (.ref a241), .val (.ref a263), .val (.int ((x4.toUInt32 >>> ((2 : Int32) &&& 31).toUInt32).toInt32 &&& (3 : Int32))), .unset] [(.int (1 : Int32))])
                exact Goes.retBW X297 hS281 (by rw [e297]; exact hk281) hZ281 hEL (by rw [e297]; exact RR281) hx hlk hret (Or.inr rfl) (hb hby at_132) (by decide) (by decide) ⟨rfl, N297⟩
              · refine Goes.on (T' := T281) (g' := (mkF m 137 #[.val (.int x0), .val (.int x1), .val (.long x2), .second, .val (.long x3), .second, .val (.int x4), .val (.ref r156), .val (.ref r233), .val (.long z240), .second, .val (.ref a241), .val (.ref a263), .val (.int ((x4.toUInt32 >>> ((2 : Int32) &&& 31).toUInt32).toInt32 &&& (3 : Int32))), .unset] [(.ref r233), (.ref r156)])) (fun _ k => XS.icmpYes X281.here hx rfl (pc0 := 122) (pc' := 133) rfl (hb hby at_122) rfl (XT.ii_ne_t hc296) (by decide) (by decide) (XS.aload X281.here hx rfl (hb hby at_133) rfl rfl (XS.aload X281.here hx rfl (hb hby at_135) rfl rfl k))) ?_
                by_cases hc298 : c0156 = c0233 ∧ c1156 = c1233
                · refine Goes.callS X281 hx hZ281 0 hown281 (own_w hw 116 rfl) (own_w hw 117 rfl) (own_w hw 2 rfl) (own_w hw 118 rfl) (by decide) rfl (rmSs22 l Z a0 hw r156 r233 c0156 c1156 c0233 c1233 T281.heap n0 Z289 C282 cs SC hcs sf SF hsf b156 b233 kb156 kb233 C283 C284 hc0156 hc1156 hc0233 hc1233 (1 : Int32) (Or.inr rfl) (own_T hc298)) (by decide) (by decide) (by decide) (by decide) rfl (by rw [hml]; rfl) (argsL := [(.ref r156), (.ref r233)]) (rest := []) rfl (lenOf pd_16 rfl) rfl (by show 2 * 0 + _ ≤ _; exact Nat.le_of_eq rfl) (hb hby at_137) ?_
                  intro v299 T299 L299 X299 hQ299
                  obtain ⟨rfl, N299q, e299⟩ := hQ299
                  have N299 := Fr.app N281 N299q
                  show Goes p e below _ T299 (mkF m 140 #[.val (.int x0), .val (.int x1), .val (.long x2), .second, .val (.long x3), .second, .val (.int x4), .val (.ref r156), .val (.ref r233), .val (.long z240), .second, .val (.ref a241), .val (.ref a263), .val (.int ((x4.toUInt32 >>> ((2 : Int32) &&& 31).toUInt32).toInt32 &&& (3 : Int32))), .unset] [(.int (1 : Int32))])
                  refine Goes.on (T' := T299) (g' := (mkF m 147 #[.val (.int x0), .val (.int x1), .val (.long x2), .second, .val (.long x3), .second, .val (.int x4), .val (.ref r156), .val (.ref r233), .val (.long z240), .second, .val (.ref a241), .val (.ref a263), .val (.int ((x4.toUInt32 >>> ((2 : Int32) &&& 31).toUInt32).toInt32 &&& (3 : Int32))), .unset] [(.int (XT.cmpL x2 z240))])) (fun _ k => XS.ifNo X299.here hx rfl (hb hby at_140) rfl (XT.i0_eq_f (by decide)) (XS.lloadN X299.here hx rfl (hb hby at_143) rfl (XS.lload X299.here hx rfl (hb hby at_144) rfl (XT.lcmp X299.here hx rfl (hb hby at_146) rfl k)))) ?_
                  by_cases hc300 : x2 = z240
                  · refine Goes.on (T' := T299) (g' := (mkF m 161 #[.val (.int x0), .val (.int x1), .val (.long x2), .second, .val (.long x3), .second, .val (.int x4), .val (.ref r156), .val (.ref r233), .val (.long z240), .second, .val (.ref a241), .val (.ref a263), .val (.int ((x4.toUInt32 >>> ((2 : Int32) &&& 31).toUInt32).toInt32 &&& (3 : Int32))), .val (.int (1 : Int32))] [(.ref a263), (.ref a241)])) (fun _ k => XS.ifNo X299.here hx rfl (hb hby at_147) rfl (XT.ll_ne_f hc300) (XS.iconst X299.here hx rfl (hb hby at_150) (XS.goto X299.here hx rfl (pc0 := 151) (pc' := 155) rfl (hb hby at_151) (by decide) (by decide) (XS.istore X299.here hx rfl (hb hby at_155) rfl (l' := #[.val (.int x0), .val (.int x1), .val (.long x2), .second, .val (.long x3), .second, .val (.int x4), .val (.ref r156), .val (.ref r233), .val (.long z240), .second, .val (.ref a241), .val (.ref a263), .val (.int ((x4.toUInt32 >>> ((2 : Int32) &&& 31).toUInt32).toInt32 &&& (3 : Int32))), .val (.int (1 : Int32))]) rfl (XS.aload X299.here hx rfl (hb hby at_157) rfl rfl (XS.aload X299.here hx rfl (hb hby at_159) rfl rfl k)))))) ?_
                    refine Goes.callV X299 hx hZ281 0 hown281 (own_w hw 108 rfl) (own_w hw 109 rfl) (notFace_of_selects (args := #[]) (mvT hZ281 (own_w hw 111 rfl))) (own_w hw 111 rfl) (own_w hw 110 rfl) (own_w hw 39 rfl) (own_w hw 112 rfl) (by decide) e299 C285 (rmOe22 l Z a0 hw a241 a263 (c0156.toInt8.toInt32) (c1156.toInt8.toInt32) (c0233.toInt8.toInt32) (c1233.toInt8.toInt32) T281.heap n0 Z289 C282 cs SC hcs r156 r233 b156 b233 kb156 kb233 x2 z240 C285 C286 C287 A281 B281_endpoint B281_object C283 C284 (1 : Int32) (Or.inr rfl) (own_T ⟨⟨congrArg (fun c => c.toInt8.toInt32) (hc298.1).symm, congrArg (fun c => c.toInt8.toInt32) (hc298.2).symm⟩, (hc300).symm⟩)) (by decide) (by decide) (by decide) (by decide) rfl (by rw [hml]; rfl) (argsL := [(.ref a263)]) (rest := []) rfl (lenOf pd_7 rfl) rfl (by show 2 * 0 + _ ≤ _; exact Nat.le_of_eq rfl) (hb hby at_161) ?_
                    intro v301 T301 L301 X301 hQ301
                    obtain ⟨rfl, N301q, e301⟩ := hQ301
                    have N301 := Fr.app N299 N301q
                    show Goes p e below _ T301 (mkF m 164 #[.val (.int x0), .val (.int x1), .val (.long x2), .second, .val (.long x3), .second, .val (.int x4), .val (.ref r156), .val (.ref r233), .val (.long z240), .second, .val (.ref a241), .val (.ref a263), .val (.int ((x4.toUInt32 >>> ((2 : Int32) &&& 31).toUInt32).toInt32 &&& (3 : Int32))), .val (.int (1 : Int32))] [(.int (1 : Int32))])
                    refine Goes.on (T' := T301) (g' := (mkF m 173 #[.val (.int x0), .val (.int x1), .val (.long x2), .second, .val (.long x3), .second, .val (.int x4), .val (.ref r156), .val (.ref r233), .val (.long z240), .second, .val (.ref a241), .val (.ref a263), .val (.int ((x4.toUInt32 >>> ((2 : Int32) &&& 31).toUInt32).toInt32 &&& (3 : Int32))), .val (.int (1 : Int32))] [(.ref a241), (.ref a263)])) (fun _ k => XS.iload X301.here hx rfl (hb hby at_164) rfl (XS.icmpNo X301.here hx rfl (hb hby at_166) rfl (XT.ii_ne_f (by decide)) (XS.aload X301.here hx rfl (hb hby at_169) rfl rfl (XS.aload X301.here hx rfl (hb hby at_171) rfl rfl k)))) ?_
                    refine Goes.callV X301 hx hZ281 0 hown281 (own_w hw 108 rfl) (own_w hw 109 rfl) (notFace_of_selects (args := #[]) (mvT hZ281 (own_w hw 111 rfl))) (own_w hw 111 rfl) (own_w hw 110 rfl) (own_w hw 39 rfl) (own_w hw 112 rfl) (by decide) e301 A281 (rmOe22 l Z a0 hw a263 a241 (c0233.toInt8.toInt32) (c1233.toInt8.toInt32) (c0156.toInt8.toInt32) (c1156.toInt8.toInt32) T281.heap n0 Z289 C282 cs SC hcs r233 r156 b233 b156 kb233 kb156 z240 x2 A281 B281_endpoint B281_object C285 C286 C287 C284 C283 (1 : Int32) (Or.inr rfl) (own_T ⟨⟨congrArg (fun c => c.toInt8.toInt32) (hc298.1), congrArg (fun c => c.toInt8.toInt32) (hc298.2)⟩, (hc300)⟩)) (by decide) (by decide) (by decide) (by decide) rfl (by rw [hml]; rfl) (argsL := [(.ref a241)]) (rest := []) rfl (lenOf pd_7 rfl) rfl (by show 2 * 0 + _ ≤ _; exact Nat.le_of_eq rfl) (hb hby at_173) ?_
                    intro v302 T302 L302 X302 hQ302
                    obtain ⟨rfl, N302q, e302⟩ := hQ302
                    have N302 := Fr.app N301 N302q
                    show Goes p e below _ T302 (mkF m 176 #[.val (.int x0), .val (.int x1), .val (.long x2), .second, .val (.long x3), .second, .val (.int x4), .val (.ref r156), .val (.ref r233), .val (.long z240), .second, .val (.ref a241), .val (.ref a263), .val (.int ((x4.toUInt32 >>> ((2 : Int32) &&& 31).toUInt32).toInt32 &&& (3 : Int32))), .val (.int (1 : Int32))] [(.int (1 : Int32))])
                    refine Goes.on (T' := T302) (g' := (mkF m 186 #[.val (.int x0), .val (.int x1), .val (.long x2), .second, .val (.long x3), .second, .val (.int x4), .val (.ref r156), .val (.ref r233), .val (.long z240), .second, .val (.ref a241), .val (.ref a263), .val (.int ((x4.toUInt32 >>> ((2 : Int32) &&& 31).toUInt32).toInt32 &&& (3 : Int32))), .val (.int (1 : Int32))] [(.int (1 : Int32))])) (fun _ k => XS.iload X302.here hx rfl (hb hby at_176) rfl (XS.icmpNo X302.here hx rfl (hb hby at_178) rfl (XT.ii_ne_f (by decide)) (XS.iconst X302.here hx rfl (hb hby at_181) (XS.goto X302.here hx rfl (pc0 := 182) (pc' := 186) rfl (hb hby at_182) (by decide) (by decide) k)))) ?_
                    exact Goes.retBW X302 hS281 (by rw [e302]; exact hk281) hZ281 hEL (by rw [e302]; exact RR281) hx hlk hret (Or.inr rfl) (hb hby at_186) (by decide) (by decide) ⟨rfl, N302⟩
                  · refine Goes.on (T' := T299) (g' := (mkF m 161 #[.val (.int x0), .val (.int x1), .val (.long x2), .second, .val (.long x3), .second, .val (.int x4), .val (.ref r156), .val (.ref r233), .val (.long z240), .second, .val (.ref a241), .val (.ref a263), .val (.int ((x4.toUInt32 >>> ((2 : Int32) &&& 31).toUInt32).toInt32 &&& (3 : Int32))), .val (.int (0 : Int32))] [(.ref a263), (.ref a241)])) (fun _ k => XS.ifYes X299.here hx rfl (pc0 := 147) (pc' := 154) rfl (hb hby at_147) rfl (XT.ll_ne_t hc300) (by decide) (by decide) (XS.iconst X299.here hx rfl (hb hby at_154) (XS.istore X299.here hx rfl (hb hby at_155) rfl (l' := #[.val (.int x0), .val (.int x1), .val (.long x2), .second, .val (.long x3), .second, .val (.int x4), .val (.ref r156), .val (.ref r233), .val (.long z240), .second, .val (.ref a241), .val (.ref a263), .val (.int ((x4.toUInt32 >>> ((2 : Int32) &&& 31).toUInt32).toInt32 &&& (3 : Int32))), .val (.int (0 : Int32))]) rfl (XS.aload X299.here hx rfl (hb hby at_157) rfl rfl (XS.aload X299.here hx rfl (hb hby at_159) rfl rfl k))))) ?_
                    refine Goes.callV X299 hx hZ281 0 hown281 (own_w hw 108 rfl) (own_w hw 109 rfl) (notFace_of_selects (args := #[]) (mvT hZ281 (own_w hw 111 rfl))) (own_w hw 111 rfl) (own_w hw 110 rfl) (own_w hw 39 rfl) (own_w hw 112 rfl) (by decide) e299 C285 (rmOe22 l Z a0 hw a241 a263 (c0156.toInt8.toInt32) (c1156.toInt8.toInt32) (c0233.toInt8.toInt32) (c1233.toInt8.toInt32) T281.heap n0 Z289 C282 cs SC hcs r156 r233 b156 b233 kb156 kb233 x2 z240 C285 C286 C287 A281 B281_endpoint B281_object C283 C284 (0 : Int32) (Or.inl rfl) (own_F (fun q => hc300 (q.2.symm)))) (by decide) (by decide) (by decide) (by decide) rfl (by rw [hml]; rfl) (argsL := [(.ref a263)]) (rest := []) rfl (lenOf pd_7 rfl) rfl (by show 2 * 0 + _ ≤ _; exact Nat.le_of_eq rfl) (hb hby at_161) ?_
                    intro v303 T303 L303 X303 hQ303
                    obtain ⟨rfl, N303q, e303⟩ := hQ303
                    have N303 := Fr.app N299 N303q
                    show Goes p e below _ T303 (mkF m 164 #[.val (.int x0), .val (.int x1), .val (.long x2), .second, .val (.long x3), .second, .val (.int x4), .val (.ref r156), .val (.ref r233), .val (.long z240), .second, .val (.ref a241), .val (.ref a263), .val (.int ((x4.toUInt32 >>> ((2 : Int32) &&& 31).toUInt32).toInt32 &&& (3 : Int32))), .val (.int (0 : Int32))] [(.int (0 : Int32))])
                    refine Goes.on (T' := T303) (g' := (mkF m 173 #[.val (.int x0), .val (.int x1), .val (.long x2), .second, .val (.long x3), .second, .val (.int x4), .val (.ref r156), .val (.ref r233), .val (.long z240), .second, .val (.ref a241), .val (.ref a263), .val (.int ((x4.toUInt32 >>> ((2 : Int32) &&& 31).toUInt32).toInt32 &&& (3 : Int32))), .val (.int (0 : Int32))] [(.ref a241), (.ref a263)])) (fun _ k => XS.iload X303.here hx rfl (hb hby at_164) rfl (XS.icmpNo X303.here hx rfl (hb hby at_166) rfl (XT.ii_ne_f (by decide)) (XS.aload X303.here hx rfl (hb hby at_169) rfl rfl (XS.aload X303.here hx rfl (hb hby at_171) rfl rfl k)))) ?_
                    refine Goes.callV X303 hx hZ281 0 hown281 (own_w hw 108 rfl) (own_w hw 109 rfl) (notFace_of_selects (args := #[]) (mvT hZ281 (own_w hw 111 rfl))) (own_w hw 111 rfl) (own_w hw 110 rfl) (own_w hw 39 rfl) (own_w hw 112 rfl) (by decide) e303 A281 (rmOe22 l Z a0 hw a263 a241 (c0233.toInt8.toInt32) (c1233.toInt8.toInt32) (c0156.toInt8.toInt32) (c1156.toInt8.toInt32) T281.heap n0 Z289 C282 cs SC hcs r233 r156 b233 b156 kb233 kb156 z240 x2 A281 B281_endpoint B281_object C285 C286 C287 C284 C283 (0 : Int32) (Or.inl rfl) (own_F (fun q => hc300 (q.2)))) (by decide) (by decide) (by decide) (by decide) rfl (by rw [hml]; rfl) (argsL := [(.ref a241)]) (rest := []) rfl (lenOf pd_7 rfl) rfl (by show 2 * 0 + _ ≤ _; exact Nat.le_of_eq rfl) (hb hby at_173) ?_
                    intro v304 T304 L304 X304 hQ304
                    obtain ⟨rfl, N304q, e304⟩ := hQ304
                    have N304 := Fr.app N303 N304q
                    show Goes p e below _ T304 (mkF m 176 #[.val (.int x0), .val (.int x1), .val (.long x2), .second, .val (.long x3), .second, .val (.int x4), .val (.ref r156), .val (.ref r233), .val (.long z240), .second, .val (.ref a241), .val (.ref a263), .val (.int ((x4.toUInt32 >>> ((2 : Int32) &&& 31).toUInt32).toInt32 &&& (3 : Int32))), .val (.int (0 : Int32))] [(.int (0 : Int32))])
                    refine Goes.on (T' := T304) (g' := (mkF m 186 #[.val (.int x0), .val (.int x1), .val (.long x2), .second, .val (.long x3), .second, .val (.int x4), .val (.ref r156), .val (.ref r233), .val (.long z240), .second, .val (.ref a241), .val (.ref a263), .val (.int ((x4.toUInt32 >>> ((2 : Int32) &&& 31).toUInt32).toInt32 &&& (3 : Int32))), .val (.int (0 : Int32))] [(.int (1 : Int32))])) (fun _ k => XS.iload X304.here hx rfl (hb hby at_176) rfl (XS.icmpNo X304.here hx rfl (hb hby at_178) rfl (XT.ii_ne_f (by decide)) (XS.iconst X304.here hx rfl (hb hby at_181) (XS.goto X304.here hx rfl (pc0 := 182) (pc' := 186) rfl (hb hby at_182) (by decide) (by decide) k)))) ?_
                    exact Goes.retBW X304 hS281 (by rw [e304]; exact hk281) hZ281 hEL (by rw [e304]; exact RR281) hx hlk hret (Or.inr rfl) (hb hby at_186) (by decide) (by decide) ⟨rfl, N304⟩
                · refine Goes.callS X281 hx hZ281 0 hown281 (own_w hw 116 rfl) (own_w hw 117 rfl) (own_w hw 2 rfl) (own_w hw 118 rfl) (by decide) rfl (rmSs22 l Z a0 hw r156 r233 c0156 c1156 c0233 c1233 T281.heap n0 Z289 C282 cs SC hcs sf SF hsf b156 b233 kb156 kb233 C283 C284 hc0156 hc1156 hc0233 hc1233 (0 : Int32) (Or.inl rfl) (own_F hc298)) (by decide) (by decide) (by decide) (by decide) rfl (by rw [hml]; rfl) (argsL := [(.ref r156), (.ref r233)]) (rest := []) rfl (lenOf pd_16 rfl) rfl (by show 2 * 0 + _ ≤ _; exact Nat.le_of_eq rfl) (hb hby at_137) ?_
                  intro v305 T305 L305 X305 hQ305
                  obtain ⟨rfl, N305q, e305⟩ := hQ305
                  have N305 := Fr.app N281 N305q
                  show Goes p e below _ T305 (mkF m 140 #[.val (.int x0), .val (.int x1), .val (.long x2), .second, .val (.long x3), .second, .val (.int x4), .val (.ref r156), .val (.ref r233), .val (.long z240), .second, .val (.ref a241), .val (.ref a263), .val (.int ((x4.toUInt32 >>> ((2 : Int32) &&& 31).toUInt32).toInt32 &&& (3 : Int32))), .unset] [(.int (0 : Int32))])
                  refine Goes.on (T' := T305) (g' := (mkF m 161 #[.val (.int x0), .val (.int x1), .val (.long x2), .second, .val (.long x3), .second, .val (.int x4), .val (.ref r156), .val (.ref r233), .val (.long z240), .second, .val (.ref a241), .val (.ref a263), .val (.int ((x4.toUInt32 >>> ((2 : Int32) &&& 31).toUInt32).toInt32 &&& (3 : Int32))), .val (.int (0 : Int32))] [(.ref a263), (.ref a241)])) (fun _ k => XS.ifYes X305.here hx rfl (pc0 := 140) (pc' := 154) rfl (hb hby at_140) rfl (XT.i0_eq_t (by decide)) (by decide) (by decide) (XS.iconst X305.here hx rfl (hb hby at_154) (XS.istore X305.here hx rfl (hb hby at_155) rfl (l' := #[.val (.int x0), .val (.int x1), .val (.long x2), .second, .val (.long x3), .second, .val (.int x4), .val (.ref r156), .val (.ref r233), .val (.long z240), .second, .val (.ref a241), .val (.ref a263), .val (.int ((x4.toUInt32 >>> ((2 : Int32) &&& 31).toUInt32).toInt32 &&& (3 : Int32))), .val (.int (0 : Int32))]) rfl (XS.aload X305.here hx rfl (hb hby at_157) rfl rfl (XS.aload X305.here hx rfl (hb hby at_159) rfl rfl k))))) ?_
                  refine Goes.callV X305 hx hZ281 0 hown281 (own_w hw 108 rfl) (own_w hw 109 rfl) (notFace_of_selects (args := #[]) (mvT hZ281 (own_w hw 111 rfl))) (own_w hw 111 rfl) (own_w hw 110 rfl) (own_w hw 39 rfl) (own_w hw 112 rfl) (by decide) e305 C285 (rmOe22 l Z a0 hw a241 a263 (c0156.toInt8.toInt32) (c1156.toInt8.toInt32) (c0233.toInt8.toInt32) (c1233.toInt8.toInt32) T281.heap n0 Z289 C282 cs SC hcs r156 r233 b156 b233 kb156 kb233 x2 z240 C285 C286 C287 A281 B281_endpoint B281_object C283 C284 (0 : Int32) (Or.inl rfl) (own_F (fun q => hc298 ⟨(own_inj hc0233.2.1 hc0156.2.1 q.1.1).symm, (own_inj hc1233.2.1 hc1156.2.1 q.1.2).symm⟩))) (by decide) (by decide) (by decide) (by decide) rfl (by rw [hml]; rfl) (argsL := [(.ref a263)]) (rest := []) rfl (lenOf pd_7 rfl) rfl (by show 2 * 0 + _ ≤ _; exact Nat.le_of_eq rfl) (hb hby at_161) ?_
                  intro v306 T306 L306 X306 hQ306
                  obtain ⟨rfl, N306q, e306⟩ := hQ306
                  have N306 := Fr.app N305 N306q
                  show Goes p e below _ T306 (mkF m 164 #[.val (.int x0), .val (.int x1), .val (.long x2), .second, .val (.long x3), .second, .val (.int x4), .val (.ref r156), .val (.ref r233), .val (.long z240), .second, .val (.ref a241), .val (.ref a263), .val (.int ((x4.toUInt32 >>> ((2 : Int32) &&& 31).toUInt32).toInt32 &&& (3 : Int32))), .val (.int (0 : Int32))] [(.int (0 : Int32))])
                  refine Goes.on (T' := T306) (g' := (mkF m 173 #[.val (.int x0), .val (.int x1), .val (.long x2), .second, .val (.long x3), .second, .val (.int x4), .val (.ref r156), .val (.ref r233), .val (.long z240), .second, .val (.ref a241), .val (.ref a263), .val (.int ((x4.toUInt32 >>> ((2 : Int32) &&& 31).toUInt32).toInt32 &&& (3 : Int32))), .val (.int (0 : Int32))] [(.ref a241), (.ref a263)])) (fun _ k => XS.iload X306.here hx rfl (hb hby at_164) rfl (XS.icmpNo X306.here hx rfl (hb hby at_166) rfl (XT.ii_ne_f (by decide)) (XS.aload X306.here hx rfl (hb hby at_169) rfl rfl (XS.aload X306.here hx rfl (hb hby at_171) rfl rfl k)))) ?_
                  refine Goes.callV X306 hx hZ281 0 hown281 (own_w hw 108 rfl) (own_w hw 109 rfl) (notFace_of_selects (args := #[]) (mvT hZ281 (own_w hw 111 rfl))) (own_w hw 111 rfl) (own_w hw 110 rfl) (own_w hw 39 rfl) (own_w hw 112 rfl) (by decide) e306 A281 (rmOe22 l Z a0 hw a263 a241 (c0233.toInt8.toInt32) (c1233.toInt8.toInt32) (c0156.toInt8.toInt32) (c1156.toInt8.toInt32) T281.heap n0 Z289 C282 cs SC hcs r233 r156 b233 b156 kb233 kb156 z240 x2 A281 B281_endpoint B281_object C285 C286 C287 C284 C283 (0 : Int32) (Or.inl rfl) (own_F (fun q => hc298 ⟨(own_inj hc0156.2.1 hc0233.2.1 q.1.1), (own_inj hc1156.2.1 hc1233.2.1 q.1.2)⟩))) (by decide) (by decide) (by decide) (by decide) rfl (by rw [hml]; rfl) (argsL := [(.ref a241)]) (rest := []) rfl (lenOf pd_7 rfl) rfl (by show 2 * 0 + _ ≤ _; exact Nat.le_of_eq rfl) (hb hby at_173) ?_
                  intro v307 T307 L307 X307 hQ307
                  obtain ⟨rfl, N307q, e307⟩ := hQ307
                  have N307 := Fr.app N306 N307q
                  show Goes p e below _ T307 (mkF m 176 #[.val (.int x0), .val (.int x1), .val (.long x2), .second, .val (.long x3), .second, .val (.int x4), .val (.ref r156), .val (.ref r233), .val (.long z240), .second, .val (.ref a241), .val (.ref a263), .val (.int ((x4.toUInt32 >>> ((2 : Int32) &&& 31).toUInt32).toInt32 &&& (3 : Int32))), .val (.int (0 : Int32))] [(.int (0 : Int32))])
                  refine Goes.on (T' := T307) (g' := (mkF m 186 #[.val (.int x0), .val (.int x1), .val (.long x2), .second, .val (.long x3), .second, .val (.int x4), .val (.ref r156), .val (.ref r233), .val (.long z240), .second, .val (.ref a241), .val (.ref a263), .val (.int ((x4.toUInt32 >>> ((2 : Int32) &&& 31).toUInt32).toInt32 &&& (3 : Int32))), .val (.int (0 : Int32))] [(.int (1 : Int32))])) (fun _ k => XS.iload X307.here hx rfl (hb hby at_176) rfl (XS.icmpNo X307.here hx rfl (hb hby at_178) rfl (XT.ii_ne_f (by decide)) (XS.iconst X307.here hx rfl (hb hby at_181) (XS.goto X307.here hx rfl (pc0 := 182) (pc' := 186) rfl (hb hby at_182) (by decide) (by decide) k)))) ?_
                  exact Goes.retBW X307 hS281 (by rw [e307]; exact hk281) hZ281 hEL (by rw [e307]; exact RR281) hx hlk hret (Or.inr rfl) (hb hby at_186) (by decide) (by decide) ⟨rfl, N307⟩
        · intro J240
          refine Goes.on (T' := T233) (g' := (mkF m 29 #[.val (.int x0), .val (.int x1), .val (.long x2), .second, .val (.long x3), .second, .val (.int x4), .val (.ref r156), .val (.ref r233), .unset, .unset, .unset, .unset, .unset, .unset] [(.int (x4 &&& (2 : Int32)))])) (fun _ k => XS.iload X233.here hx rfl (hb hby at_25) rfl (XS.iconst X233.here hx rfl (hb hby at_27) (XS.iand X233.here hx rfl (hb hby at_28) rfl k))) ?_
          by_cases hc308 : (x4 &&& (2 : Int32)) = (0 : Int32)
          · refine Goes.on (T' := T233) (g' := (mkF m 38 #[.val (.int x0), .val (.int x1), .val (.long x2), .second, .val (.long x3), .second, .val (.int x4), .val (.ref r156), .val (.ref r233), .unset, .unset, .unset, .unset, .unset, .unset] [(.long x3)])) (fun _ k => XS.ifYes X233.here hx rfl (pc0 := 29) (pc' := 36) rfl (hb hby at_29) rfl (XT.i0_eq_t hc308) (by decide) (by decide) (XS.lload X233.here hx rfl (hb hby at_36) rfl k)) ?_
            exact J240 x3
          · refine Goes.on (T' := T233) (g' := (mkF m 38 #[.val (.int x0), .val (.int x1), .val (.long x2), .second, .val (.long x3), .second, .val (.int x4), .val (.ref r156), .val (.ref r233), .unset, .unset, .unset, .unset, .unset, .unset] [(.long x2)])) (fun _ k => XS.ifNo X233.here hx rfl (hb hby at_29) rfl (XT.i0_eq_f hc308) (XS.lloadN X233.here hx rfl (hb hby at_32) rfl (XS.goto X233.here hx rfl (pc0 := 33) (pc' := 38) rfl (hb hby at_33) (by decide) (by decide) k))) ?_
            exact J240 x2
    · intro J162
      refine Goes.on (T' := T156) (g' := (mkF m 10 #[.val (.int x0), .val (.int x1), .val (.long x2), .second, .val (.long x3), .second, .val (.int x4), .val (.ref r156), .unset, .unset, .unset, .unset, .unset, .unset, .unset] [(.int (x4 &&& (1 : Int32)))])) (fun _ k => XS.iload X156.here hx rfl (hb hby at_6) rfl (XS.iconst X156.here hx rfl (hb hby at_8) (XS.iand X156.here hx rfl (hb hby at_9) rfl k))) ?_
      by_cases hc309 : (x4 &&& (1 : Int32)) = (0 : Int32)
      · refine Goes.on (T' := T156) (g' := (mkF m 20 #[.val (.int x0), .val (.int x1), .val (.long x2), .second, .val (.long x3), .second, .val (.int x4), .val (.ref r156), .unset, .unset, .unset, .unset, .unset, .unset, .unset] [(.int (x0 ^^^ x1))])) (fun _ k => XS.ifYes X156.here hx rfl (pc0 := 10) (pc' := 17) rfl (hb hby at_10) rfl (XT.i0_eq_t hc309) (by decide) (by decide) (XS.iloadN X156.here hx rfl (hb hby at_17) rfl (XS.iloadN X156.here hx rfl (hb hby at_18) rfl (XS.ixor X156.here hx rfl (hb hby at_19) rfl k)))) ?_
        exact J162 (x0 ^^^ x1)
      · refine Goes.on (T' := T156) (g' := (mkF m 20 #[.val (.int x0), .val (.int x1), .val (.long x2), .second, .val (.long x3), .second, .val (.int x4), .val (.ref r156), .unset, .unset, .unset, .unset, .unset, .unset, .unset] [(.int x0)])) (fun _ k => XS.ifNo X156.here hx rfl (hb hby at_10) rfl (XT.i0_eq_f hc309) (XS.iloadN X156.here hx rfl (hb hby at_13) rfl (XS.goto X156.here hx rfl (pc0 := 14) (pc' := 20) rfl (hb hby at_14) (by decide) (by decide) k))) ?_
        exact J162 x0
set_option maxRecDepth 65536 in
set_option maxHeartbeats 40000000 in
theorem comes_1 {Post : Tables → Env → Array Value → State → Outcome → State → Prop} (hpost : ∀ tb e args s v u, (limb_1_1.after args s (.returned v) u = true ∧ limb_1_2.after args s (.returned v) u = true ∧ True) → ReturnedEndW s (.returned v) u (Jvm.fieldLocs frame_1_writes args s ++ Jvm.arrayLocs frame_1_arrays args s ++ Jvm.staticLocs frame_1_statics s) 32 2176 → Post tb e args s (.returned v) u) :
    ArmFor flags0 classFile x code maxLocals ret World_1 tables_1 room_1 Calls_1 rest_1 Pre_1 Post := by
  intro l hfl _ _ p e ha hc hk s m args below hf hA hF happ hP
  obtain ⟨hcalls, hrest, hpre⟩ := hP
  obtain ⟨-, -, -, hnamed, -, -, -, hat⟩ := (Spec.applies_iff hf).mp happ
  obtain ⟨hg, hn⟩ := and_e (Cond.before_iff.mp (show (Jvm.Cond.and given_1 narrow_1).before args s = true from hpre))
  obtain ⟨g0, r0⟩ := and_e hg
  obtain ⟨g1, r1⟩ := and_e r0
  obtain ⟨g2, r2⟩ := and_e r1
  obtain ⟨g3, r3⟩ := and_e r2
  obtain ⟨g4, r4⟩ := and_e r3
  obtain ⟨w0, w1, w2, w3, w4, rfl⟩ : ∃ w0 w1 w2 w3 w4 : Value, args = #[w0, w1, w2, w3, w4] := by
    have hs : args.size = 5 := by simpa [Cond.value, given_1] using g0
    obtain ⟨L⟩ := args
    match L, hs with
    | [w0, w1, w2, w3, w4], _ => exact ⟨w0, w1, w2, w3, w4, rfl⟩
  have hw := fun d (hd : d ∈ tables_1) => atoms_spec (ws := Jvm.Cond.code x code maxLocals ret :: tables_1) hat d (List.mem_cons_of_mem _ hd)
  have hfit : Fit s := fun {y c} hc i hi => by
    obtain ⟨ha, rfl⟩ := Array.getElem?_eq_some_iff.mp hc
    have q := List.all_eq_true.mp ((Array.all_eq_true_iff_forall_mem.mp hF) _ (Array.getElem_mem ha)) i (List.mem_range.mpr hi)
    simpa [Array.getElem?_eq_getElem hi] using q
  obtain ⟨i0, ei0⟩ := is_v g1
  obtain rfl : w0 = (.int i0) := Option.some.inj ei0
  obtain ⟨i1, ei1⟩ := is_v g2
  obtain rfl : w1 = (.int i1) := Option.some.inj ei1
  obtain ⟨i2, ei2⟩ := isL_v g3
  obtain rfl : w2 = (.long i2) := Option.some.inj ei2
  obtain ⟨i3, ei3⟩ := isL_v g4
  obtain rfl : w3 = (.long i3) := Option.some.inj ei3
  obtain ⟨i4, ei4⟩ := is_v r4
  obtain rfl : w4 = (.int i4) := Option.some.inj ei4
  obtain ⟨hsets, hown0⟩ := atoms_of _ (rest_1_c_eq ▸ (show rest_1_c.before _ s = true from hrest))
  obtain ⟨cs, ecs⟩ := is_v (Cond.before_iff.mp (hsets _ (List.mem_of_getElem? (i := 1) rfl)))
  have SC := Sta.start ecs (Or.inl (hsets _ (List.mem_of_getElem? (i := 0) rfl)))
  have nz := not_v (Cond.before_iff.mp (hsets _ (List.mem_of_getElem? (i := 2) rfl)))
  have hcs : ¬ cs = (0 : Int32) := gotF (Cond.eq_ints ecs (Term.int_eval (0))) nz
  obtain ⟨sf, esf, hsf⟩ := isR_v (Cond.before_iff.mp (hsets _ (List.mem_of_getElem? (i := 8) rfl)))
  have SF := Sta.start esf (Or.inl (hsets _ (List.mem_of_getElem? (i := 7) rfl)))
  have hCH : CHv s consts_1 s.vm s.heap := CHv.start (own_EW hw) (fun p hp => hcalls.1 p hp) (hsets _ (List.mem_of_getElem? (i := 2) rfl)) (own_w hw 26 rfl) (own_w hw 8 rfl)
  obtain ⟨n, o, h1, h2, h3, _, L, rfl, ⟨rfl, N⟩, -, hq⟩ := rm0 l s _ hw i0 i1 i2 i3 i4 s.heap s.heap.size (Nat.le_refl _) (own_EW hw) (Old.start s) cs SC hcs sf SF hsf p e ha hc hk s m _ below hf ((Spec.applies_iff_loose hf).mp happ).1 ⟨rfl, State.Warmed39.refl s, rfl, hCH⟩ trivial
  refine ⟨n, _, h1, h2, h3, hpost _ _ _ _ _ _ ⟨Cond.after_iff.mpr rfl, Cond.after_iff.mpr (eq_i res_at (Term.int_eval (1)) rfl), trivial⟩ ⟨hq.1, hq.2.1, hq.2.2.1, (hq.2.2.2.sift fun y hy => Or.inr (N y hy)).mono (by decide) (by decide)⟩⟩
theorem main_1_1 : Claimed_1_1 := comes_1 fun _ _ _ _ _ _ h hF => ⟨h.1, hF⟩
theorem main_1_2 : Claimed_1_2 := comes_1 fun _ _ _ _ _ _ h hF => ⟨h.2.1, hF⟩

end Jvm.Pilot.@@N@@
namespace Jvm.Pilot.@@N@@
open Jvm Jvm.ClassFile Sem Op Lib Jvm.Free Jvm.Stand Jvm.Pilot.@@N@@.Jvm.D
/-! MADE BY PROGRAM (witnessworld.py) out of the Statement's table words and the real class files: 21 classes; the members and pool entries that the words name. The judged class is class 1, her method 4. -/
namespace start1
open Jvm.ClassFile
def u (s : String) : CpInfo := .utf8 (stringToUtf16 s)
/-- a pool by its gaps: so many unusable entries, then the entry; so many at the end -/
def gap : Nat → List CpInfo → List CpInfo
  | 0, r => r
  | n + 1, r => .unusable :: gap n r
def poolList (es : List (Nat × CpInfo)) (last : Nat) : List CpInfo := es.foldr (fun e r => gap e.1 (e.2 :: r)) (gap last [])
def pool (es : List (Nat × CpInfo)) (last : Nat) : Array CpInfo := ⟨poolList es last⟩
def fileOf (pool : Array CpInfo) (this : Nat) (attrs : Array Attribute := #[]) (ms : Array MethodInfo := #[]) (fl : Nat := 33) (sup : Nat := 0) (ifs : Array Nat := #[]) (fds : Array FieldInfo := #[]) : ClassFile where
  minorVersion := 0
  majorVersion := 65
  constantPool := pool
  accessFlags := fl
  thisClass := this
  superClass := sup
  interfaces := ifs
  fields := fds
  methods := ms
  attributes := attrs
def plain (name : String) (sup : Option ClassId) : Class where
  name := name
  kind := .ordinary
  loader := none
  accessFlags := 33
  super := sup
  interfaces := #[]
  cf := none
  fields := #[]
  methods := #[]
  instanceTypes := #[]
  staticTypes := #[]
  resolved := #[]
  callSites := []
  init := .initialized
  statics := none
  mirror := none

def pool0 : Array CpInfo := pool [(5, u "<init>"), (0, u "()V"), (1, .class_ 10), (1, u "java/lang/Object")] 113

def k0c0 : Code := { maxStack := 0, maxLocals := 1, code := object_method_1_code, exceptionTable := #[], attributes := #[] }
def k0m0 : Method := { name := "<init>", desc := "()V", sig := { parameters := [], returnType := none }, accessFlags := 1, code := some k0c0 }
/-- java/lang/Object -/
def k0 : Class := { plain "java/lang/Object" none with
  accessFlags := 33
  interfaces := #[]
  cf := some (fileOf pool0 8 #[] #[{ accessFlags := 1, nameIndex := 5, descriptorIndex := 6, attributes := #[] }] 33 0 #[] #[])
  fields := #[]
  methods := #[k0m0]
  instanceTypes := #[]
  staticTypes := #[]
  resolved := Array.replicate 124 none
  statics := none }

def pool1 : Array CpInfo := pool [(2, .class_ 4), (1, u "java/lang/Object"), (0, u "<init>"), (0, u "()V"), (0, .methodref 8 9), (0, .class_ 10), (0, .nameAndType 11 12), (0, u "com/example/narada/narada/ObjectAddressEqualsPinLaw"), (0, u "fix"), (0, u "(I)C"), (0, .class_ 14), (0, u "java/lang/String"), (0, .methodref 13 16), (0, .nameAndType 5 17), (0, u "([C)V"), (0, .methodref 13 19), (0, .nameAndType 20 21), (0, u "length"), (0, u "()I"), (0, .methodref 13 23), (0, .nameAndType 24 12), (0, u "charAt"), (0, .methodref 8 26), (0, .nameAndType 27 28), (0, u "make"), (0, u "(I)Ljava/lang/String;"), (0, .class_ 30), (0, u "com/example/narada/narada/ObjectAddress"), (0, .methodref 29 32), (0, .nameAndType 5 33), (0, u "(Ljava/lang/String;J)V"), (0, .methodref 29 35), (0, .nameAndType 36 37), (0, u "equals"), (0, u "(Ljava/lang/Object;)Z"), (0, .methodref 8 39), (0, .nameAndType 40 41), (0, u "sameStr"), (0, u "(Ljava/lang/String;Ljava/lang/String;)Z"), (3, u "law"), (0, u "(IIJJI)Z")] 2

def k1m0 : Method := { name := "<init>", desc := "()V", sig := { parameters := [], returnType := none }, accessFlags := 1, code := none }
def k1c1 : Code := { maxStack := 2, maxLocals := 1, code := method_2_code, exceptionTable := #[], attributes := #[] }
def k1m1 : Method := { name := "fix", desc := "(I)C", sig := { parameters := [.int], returnType := some .char }, accessFlags := 10, code := some k1c1 }
def k1c2 : Code := { maxStack := 6, maxLocals := 4, code := method_3_code, exceptionTable := #[], attributes := #[] }
def k1m2 : Method := { name := "make", desc := "(I)Ljava/lang/String;", sig := { parameters := [.int], returnType := some (.object "java/lang/String") }, accessFlags := 10, code := some k1c2 }
def k1c3 : Code := { maxStack := 3, maxLocals := 2, code := method_4_code, exceptionTable := #[], attributes := #[] }
def k1m3 : Method := { name := "sameStr", desc := "(Ljava/lang/String;Ljava/lang/String;)Z", sig := { parameters := [(.object "java/lang/String"), (.object "java/lang/String")], returnType := some .boolean }, accessFlags := 10, code := some k1c3 }
def k1c4 : Code := { maxStack := 5, maxLocals := 15, code := code, exceptionTable := #[], attributes := #[] }
def k1m4 : Method := { name := "law", desc := "(IIJJI)Z", sig := { parameters := [.int, .int, .long, .long, .int], returnType := some .boolean }, accessFlags := 9, code := some k1c4 }
/-- com/example/narada/narada/ObjectAddressEqualsPinLaw -/
def k1 : Class := { plain "com/example/narada/narada/ObjectAddressEqualsPinLaw" (some 0) with
  accessFlags := 49
  interfaces := #[]
  cf := some (fileOf pool1 8 #[] #[{ accessFlags := 1, nameIndex := 5, descriptorIndex := 6, attributes := #[] }, { accessFlags := 10, nameIndex := 11, descriptorIndex := 12, attributes := #[] }, { accessFlags := 10, nameIndex := 27, descriptorIndex := 28, attributes := #[] }, { accessFlags := 10, nameIndex := 40, descriptorIndex := 41, attributes := #[] }, { accessFlags := 9, nameIndex := 45, descriptorIndex := 46, attributes := #[] }] 49 2 #[] #[])
  fields := #[]
  methods := #[k1m0, k1m1, k1m2, k1m3, k1m4]
  instanceTypes := #[]
  staticTypes := #[]
  resolved := Array.replicate 49 none
  statics := none }

def pool2 : Array CpInfo := pool [(1, .class_ 2), (0, u "java/io/Serializable"), (0, .class_ 4), (0, u "java/lang/Object")] 2

/-- java/io/Serializable -/
def k2 : Class := { plain "java/io/Serializable" (some 0) with
  accessFlags := 1537
  interfaces := #[]
  cf := some (fileOf pool2 1 #[] #[] 1537 3 #[] #[])
  fields := #[]
  methods := #[]
  instanceTypes := #[]
  staticTypes := #[]
  resolved := Array.replicate 7 none
  statics := none }

def pool3 : Array CpInfo := pool [(1, .class_ 2), (0, u "java/lang/Comparable"), (0, .class_ 4), (0, u "java/lang/Object")] 7

/-- java/lang/Comparable -/
def k3 : Class := { plain "java/lang/Comparable" (some 0) with
  accessFlags := 1537
  interfaces := #[]
  cf := some (fileOf pool3 1 #[] #[] 1537 3 #[] #[])
  fields := #[]
  methods := #[]
  instanceTypes := #[]
  staticTypes := #[]
  resolved := Array.replicate 12 none
  statics := none }

def pool4 : Array CpInfo := pool [(2, .class_ 4), (1, u "java/lang/CharSequence"), (42, .class_ 48), (0, u "java/lang/CharSequence$1CodePointIterator"), (10, .class_ 60), (0, u "java/lang/CharSequence$1CharIterator"), (5, .class_ 67), (0, u "java/lang/Object")] 63

/-- java/lang/CharSequence -/
def k4 : Class := { plain "java/lang/CharSequence" (some 0) with
  accessFlags := 1537
  interfaces := #[]
  cf := some (fileOf pool4 2 #[.nestMembers #[47, 59]] #[] 1537 66 #[] #[])
  fields := #[]
  methods := #[]
  instanceTypes := #[]
  staticTypes := #[]
  resolved := Array.replicate 131 none
  statics := none }

def pool5 : Array CpInfo := pool [(1, .class_ 2), (0, u "java/lang/constant/Constable"), (0, .class_ 4), (0, u "java/lang/Object")] 6

/-- java/lang/constant/Constable -/
def k5 : Class := { plain "java/lang/constant/Constable" (some 0) with
  accessFlags := 1537
  interfaces := #[]
  cf := some (fileOf pool5 1 #[] #[] 1537 3 #[] #[])
  fields := #[]
  methods := #[]
  instanceTypes := #[]
  staticTypes := #[]
  resolved := Array.replicate 11 none
  statics := none }

def pool6 : Array CpInfo := pool [(1, .class_ 2), (0, u "java/lang/constant/ConstantDesc"), (0, .class_ 4), (0, u "java/lang/Object")] 32

/-- java/lang/constant/ConstantDesc -/
def k6 : Class := { plain "java/lang/constant/ConstantDesc" (some 0) with
  accessFlags := 1537
  interfaces := #[]
  cf := some (fileOf pool6 1 #[] #[] 1537 3 #[] #[])
  fields := #[]
  methods := #[]
  instanceTypes := #[]
  staticTypes := #[]
  resolved := Array.replicate 37 none
  statics := none }

def pool7 : Array CpInfo := pool [(1, .methodref 2 3), (0, .class_ 4), (0, .nameAndType 5 6), (0, u "java/lang/Object"), (0, u "<init>"), (0, u "()V"), (2, .fieldref 10 11), (0, .class_ 12), (0, .nameAndType 13 14), (0, u "java/lang/String"), (0, u "value"), (0, u "[B"), (0, .fieldref 10 16), (0, .nameAndType 17 18), (0, u "coder"), (0, u "B"), (2, u "hash"), (0, u "I"), (2, u "hashIsZero"), (0, u "Z"), (0, .methodref 10 28), (0, .nameAndType 5 29), (0, u "([CIILjava/lang/Void;)V"), (8, .fieldref 10 39), (0, .nameAndType 40 26), (0, u "COMPACT_STRINGS"), (1, .class_ 44), (1, u "java/lang/StringUTF16"), (0, u "compress"), (1, .methodref 42 48), (0, .nameAndType 49 50), (0, u "coderFromArrayLen"), (0, u "([BI)B"), (56, .class_ 109), (1, u "java/lang/StringLatin1"), (32, u "()Z"), (34, .methodref 42 178), (0, .nameAndType 45 179), (0, u "([CII)[B"), (154, u "()I"), (0, .methodref 10 336), (0, .nameAndType 17 337), (0, u "()B"), (25, u "([BI)C"), (27, u "(II)V"), (35, u "(I)C"), (64, .methodref 10 493), (0, .nameAndType 494 142), (0, u "isLatin1"), (0, .methodref 107 496), (0, .nameAndType 497 363), (0, u "charAt"), (3, u "checkIndex"), (3, .methodref 10 506), (0, .nameAndType 507 334), (0, u "length"), (33, .methodref 107 542), (0, .nameAndType 543 544), (0, u "equals"), (0, u "([B[B)Z"), (28, u "(Ljava/lang/Object;)Z"), (1, .class_ 576), (0, u "java/lang/CharSequence"), (22, u "CASE_INSENSITIVE_ORDER"), (0, u "Ljava/util/Comparator;"), (32, .methodref 10 634), (0, .nameAndType 635 636), (0, u "indexOf"), (0, u "(II)I"), (0, .methodref 107 638), (0, .nameAndType 635 639), (0, u "([BIII)I"), (52, u "isEmpty"), (72, u "(I)I"), (244, u "([C)V"), (42, .fieldref 1054 1055), (0, .class_ 1056), (0, .nameAndType 1057 1058), (0, u "jdk/internal/util/Preconditions"), (0, u "SIOOBE_FORMATTER"), (0, u "Ljava/util/function/BiFunction;"), (0, .methodref 1054 1060), (0, .nameAndType 501 1061), (0, u "(IILjava/util/function/BiFunction;)I"), (39, u "serialPersistentFields"), (0, u "[Ljava/io/ObjectStreamField;"), (0, .class_ 1104), (0, u "java/lang/String$CaseInsensitiveComparator"), (1, .class_ 1107), (0, u "java/io/Serializable"), (0, .class_ 1109), (0, u "java/lang/Comparable"), (0, .class_ 1111), (0, u "java/lang/constant/Constable"), (0, .class_ 1113), (0, u "java/lang/constant/ConstantDesc"), (2, u "serialVersionUID"), (0, u "J"), (3, u "REPL"), (0, u "C"), (2, u "LATIN1"), (1, u "UTF16")] 323

def k7m0 : Method := { name := "<init>", desc := "()V", sig := { parameters := [], returnType := none }, accessFlags := 1, code := none }
def k7c1 : Code := { maxStack := 5, maxLocals := 2, code := jdk_42_method_3_code, exceptionTable := #[], attributes := #[] }
def k7m1 : Method := { name := "<init>", desc := "([C)V", sig := { parameters := [(.array .char)], returnType := none }, accessFlags := 1, code := some k7c1 }
def k7c2 : Code := { maxStack := 2, maxLocals := 1, code := jdk_42_method_54_code, exceptionTable := #[], attributes := #[] }
def k7m2 : Method := { name := "length", desc := "()I", sig := { parameters := [], returnType := some .int }, accessFlags := 1, code := some k7c2 }
def k7c3 : Code := { maxStack := 1, maxLocals := 1, code := jdk_42_method_55_code, exceptionTable := #[], attributes := #[] }
def k7m3 : Method := { name := "isEmpty", desc := "()Z", sig := { parameters := [], returnType := some .boolean }, accessFlags := 1, code := some k7c3 }
def k7c4 : Code := { maxStack := 2, maxLocals := 2, code := jdk_42_method_56_code, exceptionTable := #[], attributes := #[] }
def k7m4 : Method := { name := "charAt", desc := "(I)C", sig := { parameters := [.int], returnType := some .char }, accessFlags := 1, code := some k7c4 }
def k7c5 : Code := { maxStack := 2, maxLocals := 3, code := jdk_42_method_66_code, exceptionTable := #[], attributes := #[] }
def k7m5 : Method := { name := "equals", desc := "(Ljava/lang/Object;)Z", sig := { parameters := [(.object "java/lang/Object")], returnType := some .boolean }, accessFlags := 1, code := some k7c5 }
def k7c6 : Code := { maxStack := 3, maxLocals := 2, code := jdk_42_method_79_code, exceptionTable := #[], attributes := #[] }
def k7m6 : Method := { name := "indexOf", desc := "(I)I", sig := { parameters := [.int], returnType := some .int }, accessFlags := 1, code := some k7c6 }
def k7c7 : Code := { maxStack := 4, maxLocals := 3, code := jdk_42_method_80_code, exceptionTable := #[], attributes := #[] }
def k7m7 : Method := { name := "indexOf", desc := "(II)I", sig := { parameters := [.int, .int], returnType := some .int }, accessFlags := 1, code := some k7c7 }
def k7c8 : Code := { maxStack := 4, maxLocals := 6, code := jdk_42_method_149_code, exceptionTable := #[], attributes := #[] }
def k7m8 : Method := { name := "<init>", desc := "([CIILjava/lang/Void;)V", sig := { parameters := [(.array .char), .int, .int, (.object "java/lang/Void")], returnType := none }, accessFlags := 2, code := some k7c8 }
def k7c9 : Code := { maxStack := 1, maxLocals := 1, code := jdk_42_method_152_code, exceptionTable := #[], attributes := #[] }
def k7m9 : Method := { name := "coder", desc := "()B", sig := { parameters := [], returnType := some .byte }, accessFlags := 0, code := some k7c9 }
def k7c10 : Code := { maxStack := 1, maxLocals := 1, code := jdk_42_method_154_code, exceptionTable := #[], attributes := #[] }
def k7m10 : Method := { name := "isLatin1", desc := "()Z", sig := { parameters := [], returnType := some .boolean }, accessFlags := 0, code := some k7c10 }
def k7c11 : Code := { maxStack := 3, maxLocals := 2, code := jdk_42_method_155_code, exceptionTable := #[], attributes := #[] }
def k7m11 : Method := { name := "checkIndex", desc := "(II)V", sig := { parameters := [.int, .int], returnType := none }, accessFlags := 8, code := some k7c11 }
/-- java/lang/String -/
def k7 : Class := { plain "java/lang/String" (some 0) with
  accessFlags := 49
  interfaces := #[2, 3, 4, 5, 6]
  cf := some (fileOf pool7 10 #[.nestMembers #[1103]] #[{ accessFlags := 1, nameIndex := 5, descriptorIndex := 6, attributes := #[] }, { accessFlags := 1, nameIndex := 5, descriptorIndex := 1010, attributes := #[] }, { accessFlags := 1, nameIndex := 507, descriptorIndex := 334, attributes := #[] }, { accessFlags := 1, nameIndex := 692, descriptorIndex := 142, attributes := #[] }, { accessFlags := 1, nameIndex := 497, descriptorIndex := 427, attributes := #[] }, { accessFlags := 1, nameIndex := 543, descriptorIndex := 573, attributes := #[] }, { accessFlags := 1, nameIndex := 635, descriptorIndex := 765, attributes := #[] }, { accessFlags := 1, nameIndex := 635, descriptorIndex := 636, attributes := #[] }, { accessFlags := 2, nameIndex := 5, descriptorIndex := 29, attributes := #[] }, { accessFlags := 0, nameIndex := 17, descriptorIndex := 337, attributes := #[] }, { accessFlags := 0, nameIndex := 494, descriptorIndex := 142, attributes := #[] }, { accessFlags := 8, nameIndex := 501, descriptorIndex := 391, attributes := #[] }] 49 2 #[1106, 1108, 575, 1110, 1112] #[{ accessFlags := 18, nameIndex := 13, descriptorIndex := 14, attributes := #[] }, { accessFlags := 18, nameIndex := 17, descriptorIndex := 18, attributes := #[] }, { accessFlags := 2, nameIndex := 21, descriptorIndex := 22, attributes := #[] }, { accessFlags := 2, nameIndex := 25, descriptorIndex := 26, attributes := #[] }, { accessFlags := 26, nameIndex := 1116, descriptorIndex := 1117, attributes := #[] }, { accessFlags := 24, nameIndex := 40, descriptorIndex := 26, attributes := #[] }, { accessFlags := 26, nameIndex := 1101, descriptorIndex := 1102, attributes := #[] }, { accessFlags := 26, nameIndex := 1121, descriptorIndex := 1122, attributes := #[] }, { accessFlags := 25, nameIndex := 599, descriptorIndex := 600, attributes := #[] }, { accessFlags := 24, nameIndex := 1125, descriptorIndex := 18, attributes := #[] }, { accessFlags := 24, nameIndex := 1127, descriptorIndex := 18, attributes := #[] }])
  fields := #[{ name := "value", type := (.array .byte), accessFlags := 18, slot := 0, constantValue := 0 }, { name := "coder", type := .byte, accessFlags := 18, slot := 1, constantValue := 0 }, { name := "hash", type := .int, accessFlags := 2, slot := 2, constantValue := 0 }, { name := "hashIsZero", type := .boolean, accessFlags := 2, slot := 3, constantValue := 0 }, { name := "serialVersionUID", type := .long, accessFlags := 26, slot := 0, constantValue := 0 }, { name := "COMPACT_STRINGS", type := .boolean, accessFlags := 24, slot := 1, constantValue := 0 }, { name := "serialPersistentFields", type := (.array (.object "java/io/ObjectStreamField")), accessFlags := 26, slot := 2, constantValue := 0 }, { name := "REPL", type := .char, accessFlags := 26, slot := 3, constantValue := 0 }, { name := "CASE_INSENSITIVE_ORDER", type := (.object "java/util/Comparator"), accessFlags := 25, slot := 4, constantValue := 0 }, { name := "LATIN1", type := .byte, accessFlags := 24, slot := 5, constantValue := 0 }, { name := "UTF16", type := .byte, accessFlags := 24, slot := 6, constantValue := 0 }]
  methods := #[k7m0, k7m1, k7m2, k7m3, k7m4, k7m5, k7m6, k7m7, k7m8, k7m9, k7m10, k7m11]
  instanceTypes := #[(.array .byte), .byte, .int, .boolean]
  staticTypes := #[.long, .boolean, (.array (.object "java/io/ObjectStreamField")), .char, (.object "java/util/Comparator"), .byte, .byte]
  resolved := Array.replicate 1451 none
  statics := some 0 }

def pool8 : Array CpInfo := pool [(6, .class_ 8), (1, u "java/lang/Object"), (0, u "<init>"), (0, u "()V"), (1, .class_ 14), (1, u "java/lang/StringUTF16"), (31, u "$assertionsDisabled"), (0, u "Z"), (13, u "HI_BYTE_SHIFT"), (0, u "I"), (2, u "LO_BYTE_SHIFT"), (49, .methodref 12 116), (0, .nameAndType 117 118), (0, u "compress"), (0, u "([CI[BII)I"), (3, u "([CII)[B"), (138, u "coderFromArrayLen"), (0, u "([BI)B"), (106, .class_ 371), (1, u "java/lang/StringUTF16$LinesSpliterator"), (58, u "MAX_LENGTH"), (196, .class_ 628), (0, u "java/lang/StringUTF16$CodePointsSpliterator"), (0, .class_ 630), (0, u "java/lang/StringUTF16$CharsSpliterator")] 4

def k8m0 : Method := { name := "<init>", desc := "()V", sig := { parameters := [], returnType := none }, accessFlags := 0, code := none }
def k8c1 : Code := { maxStack := 2, maxLocals := 2, code := jdk_52_method_15_code, exceptionTable := #[], attributes := #[] }
def k8m1 : Method := { name := "coderFromArrayLen", desc := "([BI)B", sig := { parameters := [(.array .byte), .int], returnType := some .byte }, accessFlags := 8, code := some k8c1 }
def k8c2 : Code := { maxStack := 5, maxLocals := 6, code := jdk_52_method_16_code, exceptionTable := #[], attributes := #[] }
def k8m2 : Method := { name := "compress", desc := "([CII)[B", sig := { parameters := [(.array .char), .int, .int], returnType := some (.array .byte) }, accessFlags := 9, code := some k8c2 }
def k8c3 : Code := { maxStack := 3, maxLocals := 7, code := jdk_52_method_21_code, exceptionTable := #[], attributes := #[] }
def k8m3 : Method := { name := "compress", desc := "([CI[BII)I", sig := { parameters := [(.array .char), .int, (.array .byte), .int, .int], returnType := some .int }, accessFlags := 9, code := some k8c3 }
/-- java/lang/StringUTF16 -/
def k8 : Class := { plain "java/lang/StringUTF16" (some 0) with
  accessFlags := 48
  interfaces := #[]
  cf := some (fileOf pool8 12 #[.nestMembers #[627, 629, 369]] #[{ accessFlags := 0, nameIndex := 9, descriptorIndex := 10, attributes := #[] }, { accessFlags := 8, nameIndex := 261, descriptorIndex := 262, attributes := #[] }, { accessFlags := 9, nameIndex := 117, descriptorIndex := 122, attributes := #[] }, { accessFlags := 9, nameIndex := 117, descriptorIndex := 118, attributes := #[] }] 48 6 #[] #[{ accessFlags := 26, nameIndex := 61, descriptorIndex := 62, attributes := #[] }, { accessFlags := 26, nameIndex := 65, descriptorIndex := 62, attributes := #[] }, { accessFlags := 24, nameIndex := 430, descriptorIndex := 62, attributes := #[] }, { accessFlags := 4120, nameIndex := 46, descriptorIndex := 47, attributes := #[] }])
  fields := #[{ name := "HI_BYTE_SHIFT", type := .int, accessFlags := 26, slot := 0, constantValue := 0 }, { name := "LO_BYTE_SHIFT", type := .int, accessFlags := 26, slot := 1, constantValue := 0 }, { name := "MAX_LENGTH", type := .int, accessFlags := 24, slot := 2, constantValue := 0 }, { name := "$assertionsDisabled", type := .boolean, accessFlags := 4120, slot := 3, constantValue := 0 }]
  methods := #[k8m0, k8m1, k8m2, k8m3]
  instanceTypes := #[]
  staticTypes := #[.int, .int, .int, .boolean]
  resolved := Array.replicate 635 none
  statics := none }

def pool9 : Array CpInfo := pool [(1, .methodref 2 3), (0, .class_ 4), (0, .nameAndType 5 6), (0, u "java/lang/Object"), (0, u "<init>"), (0, u "()V"), (0, .methodref 8 9), (0, .class_ 10), (0, .nameAndType 11 12), (0, u "java/lang/String"), (0, u "isEmpty"), (0, u "()Z"), (0, .string 14), (0, u "."), (0, .methodref 8 16), (0, .nameAndType 17 18), (0, u "equals"), (0, u "(Ljava/lang/Object;)Z"), (0, .string 20), (0, u ".."), (0, .methodref 8 22), (0, .nameAndType 23 24), (0, u "indexOf"), (0, u "(I)I"), (9, .fieldref 35 36), (0, .class_ 37), (0, .nameAndType 38 39), (0, u "com/example/narada/narada/ObjectAddress"), (0, u "endpoint"), (0, u "Ljava/lang/String;"), (0, .fieldref 35 41), (0, .nameAndType 42 43), (0, u "object"), (0, u "J"), (15, u "(Ljava/lang/String;J)V")] 27

def k9c0 : Code := { maxStack := 3, maxLocals := 4, code := prog_13_method_1_code, exceptionTable := #[], attributes := #[] }
def k9m0 : Method := { name := "<init>", desc := "(Ljava/lang/String;J)V", sig := { parameters := [(.object "java/lang/String"), .long], returnType := none }, accessFlags := 0, code := some k9c0 }
def k9c1 : Code := { maxStack := 4, maxLocals := 2, code := prog_13_method_4_code, exceptionTable := #[], attributes := #[] }
def k9m1 : Method := { name := "equals", desc := "(Ljava/lang/Object;)Z", sig := { parameters := [(.object "java/lang/Object")], returnType := some .boolean }, accessFlags := 1, code := some k9c1 }
/-- com/example/narada/narada/ObjectAddress -/
def k9 : Class := { plain "com/example/narada/narada/ObjectAddress" (some 0) with
  accessFlags := 32
  interfaces := #[]
  cf := some (fileOf pool9 35 #[] #[{ accessFlags := 0, nameIndex := 5, descriptorIndex := 59, attributes := #[] }, { accessFlags := 1, nameIndex := 17, descriptorIndex := 18, attributes := #[] }] 32 2 #[] #[{ accessFlags := 18, nameIndex := 38, descriptorIndex := 39, attributes := #[] }, { accessFlags := 18, nameIndex := 42, descriptorIndex := 43, attributes := #[] }])
  fields := #[{ name := "endpoint", type := (.object "java/lang/String"), accessFlags := 18, slot := 0, constantValue := 0 }, { name := "object", type := .long, accessFlags := 18, slot := 1, constantValue := 0 }]
  methods := #[k9m0, k9m1]
  instanceTypes := #[(.object "java/lang/String"), .long]
  staticTypes := #[]
  resolved := Array.replicate 87 none
  statics := none }

def pool10 : Array CpInfo := pool [(1, .class_ 2), (0, u "java/lang/String"), (1, .class_ 6), (1, u "java/lang/Object"), (0, u "<init>"), (0, u "()V"), (0, .methodref 1 10), (0, .nameAndType 11 12), (0, u "checkIndex"), (0, u "(II)V"), (1, .class_ 16), (1, u "java/lang/StringLatin1"), (21, .methodref 39 40), (0, .class_ 41), (0, .nameAndType 42 43), (0, u "java/lang/Math"), (0, u "min"), (0, u "(II)I"), (9, u "([BI)C"), (34, .methodref 14 89), (0, .nameAndType 90 91), (0, u "canEncode"), (0, u "(I)Z"), (0, .methodref 39 93), (0, .nameAndType 94 43), (0, u "max"), (0, .methodref 14 96), (0, .nameAndType 97 98), (0, u "indexOfChar"), (0, u "([BIII)I"), (2, u "indexOf"), (19, u "$assertionsDisabled"), (0, u "Z"), (98, .class_ 223), (1, u "java/lang/StringLatin1$LinesSpliterator"), (28, u "charAt"), (28, u "equals"), (0, u "([B[B)Z"), (107, .class_ 391), (0, u "java/lang/StringLatin1$CharsSpliterator")] 3

def k10m0 : Method := { name := "<init>", desc := "()V", sig := { parameters := [], returnType := none }, accessFlags := 0, code := none }
def k10c1 : Code := { maxStack := 2, maxLocals := 2, code := jdk_43_method_2_code, exceptionTable := #[], attributes := #[] }
def k10m1 : Method := { name := "charAt", desc := "([BI)C", sig := { parameters := [(.array .byte), .int], returnType := some .char }, accessFlags := 9, code := some k10c1 }
def k10c2 : Code := { maxStack := 2, maxLocals := 1, code := jdk_43_method_4_code, exceptionTable := #[], attributes := #[] }
def k10m2 : Method := { name := "canEncode", desc := "(I)Z", sig := { parameters := [.int], returnType := some .boolean }, accessFlags := 9, code := some k10c2 }
def k10c3 : Code := { maxStack := 3, maxLocals := 3, code := jdk_43_method_13_code, exceptionTable := #[], attributes := #[] }
def k10m3 : Method := { name := "equals", desc := "([B[B)Z", sig := { parameters := [(.array .byte), (.array .byte)], returnType := some .boolean }, accessFlags := 9, code := some k10c3 }
def k10c4 : Code := { maxStack := 4, maxLocals := 4, code := jdk_43_method_22_code, exceptionTable := #[], attributes := #[] }
def k10m4 : Method := { name := "indexOf", desc := "([BIII)I", sig := { parameters := [(.array .byte), .int, .int, .int], returnType := some .int }, accessFlags := 9, code := some k10c4 }
def k10c5 : Code := { maxStack := 2, maxLocals := 6, code := jdk_43_method_23_code, exceptionTable := #[], attributes := #[] }
def k10m5 : Method := { name := "indexOfChar", desc := "([BIII)I", sig := { parameters := [(.array .byte), .int, .int, .int], returnType := some .int }, accessFlags := 10, code := some k10c5 }
/-- java/lang/StringLatin1 -/
def k10 : Class := { plain "java/lang/StringLatin1" (some 0) with
  accessFlags := 48
  interfaces := #[]
  cf := some (fileOf pool10 14 #[.nestMembers #[390, 221]] #[{ accessFlags := 0, nameIndex := 7, descriptorIndex := 8, attributes := #[] }, { accessFlags := 9, nameIndex := 252, descriptorIndex := 53, attributes := #[] }, { accessFlags := 9, nameIndex := 90, descriptorIndex := 91, attributes := #[] }, { accessFlags := 9, nameIndex := 281, descriptorIndex := 282, attributes := #[] }, { accessFlags := 9, nameIndex := 101, descriptorIndex := 98, attributes := #[] }, { accessFlags := 10, nameIndex := 97, descriptorIndex := 98, attributes := #[] }] 48 4 #[] #[{ accessFlags := 4120, nameIndex := 121, descriptorIndex := 122, attributes := #[] }])
  fields := #[{ name := "$assertionsDisabled", type := .boolean, accessFlags := 4120, slot := 0, constantValue := 0 }]
  methods := #[k10m0, k10m1, k10m2, k10m3, k10m4, k10m5]
  instanceTypes := #[]
  staticTypes := #[.boolean]
  resolved := Array.replicate 395 none
  statics := none }

def pool11 : Array CpInfo := pool [(1, .class_ 2), (0, u "java/lang/Math"), (1, .class_ 6), (1, u "java/lang/Object"), (0, u "<init>"), (0, u "()V"), (89, .class_ 100), (1, u "java/lang/Math$RandomNumberGeneratorHolder"), (71, u "negativeZeroFloatBits"), (0, u "J"), (2, u "negativeZeroDoubleBits"), (21, u "max"), (2, u "min"), (43, u "$assertionsDisabled"), (0, u "Z"), (88, u "(II)I"), (2, u "twoToTheDoubleScaleDown"), (0, u "D"), (4, u "twoToTheDoubleScaleUp"), (9, u "E"), (3, u "PI"), (2, u "TAU"), (2, u "DEGREES_TO_RADIANS"), (0, u "RADIANS_TO_DEGREES")] 94

def k11m0 : Method := { name := "<init>", desc := "()V", sig := { parameters := [], returnType := none }, accessFlags := 2, code := none }
def k11c1 : Code := { maxStack := 2, maxLocals := 2, code := jdk_29_method_65_code, exceptionTable := #[], attributes := #[] }
def k11m1 : Method := { name := "max", desc := "(II)I", sig := { parameters := [.int, .int], returnType := some .int }, accessFlags := 9, code := some k11c1 }
def k11c2 : Code := { maxStack := 2, maxLocals := 2, code := jdk_29_method_69_code, exceptionTable := #[], attributes := #[] }
def k11m2 : Method := { name := "min", desc := "(II)I", sig := { parameters := [.int, .int], returnType := some .int }, accessFlags := 9, code := some k11c2 }
/-- java/lang/Math -/
def k11 : Class := { plain "java/lang/Math" (some 0) with
  accessFlags := 49
  interfaces := #[]
  cf := some (fileOf pool11 1 #[.nestMembers #[98]] #[{ accessFlags := 2, nameIndex := 7, descriptorIndex := 8, attributes := #[] }, { accessFlags := 9, nameIndex := 198, descriptorIndex := 335, attributes := #[] }, { accessFlags := 9, nameIndex := 201, descriptorIndex := 335, attributes := #[] }] 49 4 #[] #[{ accessFlags := 25, nameIndex := 354, descriptorIndex := 339, attributes := #[] }, { accessFlags := 25, nameIndex := 358, descriptorIndex := 339, attributes := #[] }, { accessFlags := 25, nameIndex := 361, descriptorIndex := 339, attributes := #[] }, { accessFlags := 26, nameIndex := 364, descriptorIndex := 339, attributes := #[] }, { accessFlags := 26, nameIndex := 365, descriptorIndex := 339, attributes := #[] }, { accessFlags := 26, nameIndex := 172, descriptorIndex := 173, attributes := #[] }, { accessFlags := 26, nameIndex := 176, descriptorIndex := 173, attributes := #[] }, { accessFlags := 8, nameIndex := 344, descriptorIndex := 339, attributes := #[] }, { accessFlags := 8, nameIndex := 338, descriptorIndex := 339, attributes := #[] }, { accessFlags := 4120, nameIndex := 245, descriptorIndex := 246, attributes := #[] }])
  fields := #[{ name := "E", type := .double, accessFlags := 25, slot := 0, constantValue := 0 }, { name := "PI", type := .double, accessFlags := 25, slot := 1, constantValue := 0 }, { name := "TAU", type := .double, accessFlags := 25, slot := 2, constantValue := 0 }, { name := "DEGREES_TO_RADIANS", type := .double, accessFlags := 26, slot := 3, constantValue := 0 }, { name := "RADIANS_TO_DEGREES", type := .double, accessFlags := 26, slot := 4, constantValue := 0 }, { name := "negativeZeroFloatBits", type := .long, accessFlags := 26, slot := 5, constantValue := 0 }, { name := "negativeZeroDoubleBits", type := .long, accessFlags := 26, slot := 6, constantValue := 0 }, { name := "twoToTheDoubleScaleUp", type := .double, accessFlags := 8, slot := 7, constantValue := 0 }, { name := "twoToTheDoubleScaleDown", type := .double, accessFlags := 8, slot := 8, constantValue := 0 }, { name := "$assertionsDisabled", type := .boolean, accessFlags := 4120, slot := 9, constantValue := 0 }]
  methods := #[k11m0, k11m1, k11m2]
  instanceTypes := #[]
  staticTypes := #[.double, .double, .double, .double, .double, .long, .long, .double, .double, .boolean]
  resolved := Array.replicate 460 none
  statics := none }

def pool12 : Array CpInfo := pool [(2, .class_ 4), (1, u "java/lang/Object"), (0, u "<init>"), (0, u "()V"), (17, .class_ 26), (1, u "jdk/internal/util/Preconditions"), (6, u "checkIndex"), (21, .class_ 56), (0, u "jdk/internal/util/Preconditions$4"), (57, .class_ 115), (0, u "jdk/internal/util/Preconditions$1"), (7, u "SIOOBE_FORMATTER"), (0, u "Ljava/util/function/BiFunction;"), (0, .class_ 126), (0, u "jdk/internal/util/Preconditions$2"), (3, u "AIOOBE_FORMATTER"), (0, .class_ 132), (0, u "jdk/internal/util/Preconditions$3"), (3, u "IOOBE_FORMATTER"), (41, u "(IILjava/util/function/BiFunction;)I")] 15

def k12m0 : Method := { name := "<init>", desc := "()V", sig := { parameters := [], returnType := none }, accessFlags := 1, code := none }
def k12c1 : Code := { maxStack := 3, maxLocals := 3, code := jdk_41_method_11_code, exceptionTable := #[], attributes := #[] }
def k12m1 : Method := { name := "checkIndex", desc := "(IILjava/util/function/BiFunction;)I", sig := { parameters := [.int, .int, (.object "java/util/function/BiFunction")], returnType := some .int }, accessFlags := 9, code := some k12c1 }
/-- jdk/internal/util/Preconditions -/
def k12 : Class := { plain "jdk/internal/util/Preconditions" (some 0) with
  accessFlags := 33
  interfaces := #[]
  cf := some (fileOf pool12 24 #[.nestMembers #[55, 131, 125, 114]] #[{ accessFlags := 1, nameIndex := 5, descriptorIndex := 6, attributes := #[] }, { accessFlags := 9, nameIndex := 33, descriptorIndex := 178, attributes := #[] }] 33 2 #[] #[{ accessFlags := 25, nameIndex := 123, descriptorIndex := 124, attributes := #[] }, { accessFlags := 25, nameIndex := 130, descriptorIndex := 124, attributes := #[] }, { accessFlags := 25, nameIndex := 136, descriptorIndex := 124, attributes := #[] }])
  fields := #[{ name := "SIOOBE_FORMATTER", type := (.object "java/util/function/BiFunction"), accessFlags := 25, slot := 0, constantValue := 0 }, { name := "AIOOBE_FORMATTER", type := (.object "java/util/function/BiFunction"), accessFlags := 25, slot := 1, constantValue := 0 }, { name := "IOOBE_FORMATTER", type := (.object "java/util/function/BiFunction"), accessFlags := 25, slot := 2, constantValue := 0 }]
  methods := #[k12m0, k12m1]
  instanceTypes := #[]
  staticTypes := #[(.object "java/util/function/BiFunction"), (.object "java/util/function/BiFunction"), (.object "java/util/function/BiFunction")]
  resolved := Array.replicate 194 none
  statics := some 1 }

def pool13 : Array CpInfo := pool [(9, u "<init>"), (6, .class_ 18), (1, u "java/lang/Object"), (0, u "()V"), (1, .class_ 23), (1, u "jdk/internal/util/ArraysSupport"), (0, u "LOG2_ARRAY_LONG_INDEX_SCALE"), (0, u "I"), (2, u "U"), (0, u "Ljdk/internal/misc/Unsafe;"), (8, u "BIG_ENDIAN"), (0, u "Z"), (8, u "LOG2_BYTE_BIT_SIZE"), (4, u "LOG2_ARRAY_INT_INDEX_SCALE"), (54, u "JLA"), (0, u "Ljdk/internal/access/JavaLangAccess;"), (11, u "LOG2_ARRAY_BOOLEAN_INDEX_SCALE"), (9, u "LOG2_ARRAY_BYTE_INDEX_SCALE"), (5, u "LOG2_ARRAY_CHAR_INDEX_SCALE"), (5, u "LOG2_ARRAY_SHORT_INDEX_SCALE"), (18, u "LOG2_ARRAY_FLOAT_INDEX_SCALE"), (24, u "LOG2_ARRAY_DOUBLE_INDEX_SCALE"), (89, u "T_BOOLEAN"), (2, u "T_CHAR"), (1, u "T_FLOAT"), (1, u "T_DOUBLE"), (1, u "T_BYTE"), (1, u "T_SHORT"), (1, u "T_INT"), (1, u "T_LONG"), (1, u "SOFT_MAX_ARRAY_LENGTH")] 83

def k13m0 : Method := { name := "<init>", desc := "()V", sig := { parameters := [], returnType := none }, accessFlags := 2, code := none }
/-- jdk/internal/util/ArraysSupport -/
def k13 : Class := { plain "jdk/internal/util/ArraysSupport" (some 0) with
  accessFlags := 33
  interfaces := #[]
  cf := some (fileOf pool13 21 #[] #[{ accessFlags := 2, nameIndex := 9, descriptorIndex := 19, attributes := #[] }] 33 16 #[] #[{ accessFlags := 24, nameIndex := 28, descriptorIndex := 29, attributes := #[] }, { accessFlags := 26, nameIndex := 38, descriptorIndex := 39, attributes := #[] }, { accessFlags := 25, nameIndex := 121, descriptorIndex := 25, attributes := #[] }, { accessFlags := 25, nameIndex := 131, descriptorIndex := 25, attributes := #[] }, { accessFlags := 25, nameIndex := 137, descriptorIndex := 25, attributes := #[] }, { accessFlags := 25, nameIndex := 143, descriptorIndex := 25, attributes := #[] }, { accessFlags := 25, nameIndex := 53, descriptorIndex := 25, attributes := #[] }, { accessFlags := 25, nameIndex := 24, descriptorIndex := 25, attributes := #[] }, { accessFlags := 25, nameIndex := 162, descriptorIndex := 25, attributes := #[] }, { accessFlags := 25, nameIndex := 187, descriptorIndex := 25, attributes := #[] }, { accessFlags := 26, nameIndex := 48, descriptorIndex := 25, attributes := #[] }, { accessFlags := 25, nameIndex := 277, descriptorIndex := 25, attributes := #[] }, { accessFlags := 25, nameIndex := 280, descriptorIndex := 25, attributes := #[] }, { accessFlags := 25, nameIndex := 282, descriptorIndex := 25, attributes := #[] }, { accessFlags := 25, nameIndex := 284, descriptorIndex := 25, attributes := #[] }, { accessFlags := 25, nameIndex := 286, descriptorIndex := 25, attributes := #[] }, { accessFlags := 25, nameIndex := 288, descriptorIndex := 25, attributes := #[] }, { accessFlags := 25, nameIndex := 290, descriptorIndex := 25, attributes := #[] }, { accessFlags := 25, nameIndex := 292, descriptorIndex := 25, attributes := #[] }, { accessFlags := 26, nameIndex := 108, descriptorIndex := 109, attributes := #[] }, { accessFlags := 25, nameIndex := 294, descriptorIndex := 25, attributes := #[] }])
  fields := #[{ name := "U", type := (.object "jdk/internal/misc/Unsafe"), accessFlags := 24, slot := 0, constantValue := 0 }, { name := "BIG_ENDIAN", type := .boolean, accessFlags := 26, slot := 1, constantValue := 0 }, { name := "LOG2_ARRAY_BOOLEAN_INDEX_SCALE", type := .int, accessFlags := 25, slot := 2, constantValue := 0 }, { name := "LOG2_ARRAY_BYTE_INDEX_SCALE", type := .int, accessFlags := 25, slot := 3, constantValue := 0 }, { name := "LOG2_ARRAY_CHAR_INDEX_SCALE", type := .int, accessFlags := 25, slot := 4, constantValue := 0 }, { name := "LOG2_ARRAY_SHORT_INDEX_SCALE", type := .int, accessFlags := 25, slot := 5, constantValue := 0 }, { name := "LOG2_ARRAY_INT_INDEX_SCALE", type := .int, accessFlags := 25, slot := 6, constantValue := 0 }, { name := "LOG2_ARRAY_LONG_INDEX_SCALE", type := .int, accessFlags := 25, slot := 7, constantValue := 0 }, { name := "LOG2_ARRAY_FLOAT_INDEX_SCALE", type := .int, accessFlags := 25, slot := 8, constantValue := 0 }, { name := "LOG2_ARRAY_DOUBLE_INDEX_SCALE", type := .int, accessFlags := 25, slot := 9, constantValue := 0 }, { name := "LOG2_BYTE_BIT_SIZE", type := .int, accessFlags := 26, slot := 10, constantValue := 0 }, { name := "T_BOOLEAN", type := .int, accessFlags := 25, slot := 11, constantValue := 0 }, { name := "T_CHAR", type := .int, accessFlags := 25, slot := 12, constantValue := 0 }, { name := "T_FLOAT", type := .int, accessFlags := 25, slot := 13, constantValue := 0 }, { name := "T_DOUBLE", type := .int, accessFlags := 25, slot := 14, constantValue := 0 }, { name := "T_BYTE", type := .int, accessFlags := 25, slot := 15, constantValue := 0 }, { name := "T_SHORT", type := .int, accessFlags := 25, slot := 16, constantValue := 0 }, { name := "T_INT", type := .int, accessFlags := 25, slot := 17, constantValue := 0 }, { name := "T_LONG", type := .int, accessFlags := 25, slot := 18, constantValue := 0 }, { name := "JLA", type := (.object "jdk/internal/access/JavaLangAccess"), accessFlags := 26, slot := 19, constantValue := 0 }, { name := "SOFT_MAX_ARRAY_LENGTH", type := .int, accessFlags := 25, slot := 20, constantValue := 0 }]
  methods := #[k13m0]
  instanceTypes := #[]
  staticTypes := #[(.object "jdk/internal/misc/Unsafe"), .boolean, .int, .int, .int, .int, .int, .int, .int, .int, .int, .int, .int, .int, .int, .int, .int, .int, .int, (.object "jdk/internal/access/JavaLangAccess"), .int]
  resolved := Array.replicate 378 none
  statics := none }

def pool14 : Array CpInfo := pool [(1, u "java/lang/Cloneable"), (0, .class_ 1), (0, u "java/lang/Object"), (0, .class_ 3)] 3

/-- java/lang/Cloneable -/
def k14 : Class := { plain "java/lang/Cloneable" (some 0) with
  accessFlags := 1537
  interfaces := #[]
  cf := some (fileOf pool14 2 #[] #[] 1537 4 #[] #[])
  fields := #[]
  methods := #[]
  instanceTypes := #[]
  staticTypes := #[]
  resolved := Array.replicate 8 none
  statics := none }

/-- the primitive byte -/
def k15 : Class := { plain "byte" none with kind := .primitive 'B', accessFlags := 0x411 }
/-- [B -/
def k16 : Class := { plain "[B" (some 0) with kind := .array 15 .byte, interfaces := #[14, 2], accessFlags := 1041 }

/-- the primitive char -/
def k17 : Class := { plain "char" none with kind := .primitive 'C', accessFlags := 0x411 }
/-- [C -/
def k18 : Class := { plain "[C" (some 0) with kind := .array 17 .char, interfaces := #[14, 2], accessFlags := 1041 }

/-- the primitive int -/
def k19 : Class := { plain "int" none with kind := .primitive 'I', accessFlags := 0x411 }
/-- [I -/
def k20 : Class := { plain "[I" (some 0) with kind := .array 19 .int, interfaces := #[14, 2], accessFlags := 1041 }

def heap : Heap := #[{ cls := 7, slots := #[.long 0, .int 1, .null, .int 0, .null, .int 0, .int 0], vm := .statics 7 },
  { cls := 12, slots := #[.null, .null, .null], vm := .statics 12 }]
def classes : Array Class := #[k0, k1, k2, k3, k4, k5, k6, k7, k8, k9, k10, k11, k12, k13, k14, k15, k16, k17, k18, k19, k20]
def interned : List (Array UInt16 × Addr) := []
def slotsUsed : Nat := 10
def theMethod : MethodId := ⟨1, 4⟩
def args0 : Array Value := #[.int 1, .int 2, .long 3, .long 4, .int 5]
def aboutOver (below : List Frame) : State where
  vm := { classes := classes, interned := interned.toArray }
  heap := heap
  slotsUsed := slotsUsed
  threads := #[{ frames := .invoking theMethod args0 :: below }]
def below0 : List Frame := [.native { method := ⟨0, 0⟩, args := #[] }]
def about1 : State := aboutOver below0
def p0 : Program := .bare "" "" ""
def e0 : Env := launch0.env 0 0 0
theorem w_frames : about1.frames = Frame.invoking theMethod args0 :: below0 := rfl
set_option maxRecDepth 65536 in
theorem w_args : argsFit about1.vm theMethod args0 = true := by decide +kernel
set_option maxRecDepth 65536 in
theorem w_heap : heapFits about1 = true := by decide +kernel
set_option maxRecDepth 65536 in
theorem w_runnable : about1.curStatus? = some .runnable := by decide +kernel
set_option maxRecDepth 65536 in
theorem w_alone : about1.alone = true := by decide +kernel
set_option maxRecDepth 65536 in
theorem w_named : about1.methodNamed? x = some theMethod := by decide +kernel
set_option maxRecDepth 65536 in
theorem w_hears : about1.hears theMethod below0 = true := by decide +kernel
set_option maxRecDepth 65536 in
theorem w_ripe : about1.ripe theMethod args0 below0 = true := by decide +kernel
theorem w_running : about1.status = .running := rfl
set_option maxRecDepth 65536 in
theorem w_room : about1.hasRoom e0.platform room_1 = true :=
  launch0.hasRoom_least _ room_1 (by decide +kernel) (by decide +kernel) (by decide +kernel) (by decide +kernel) (by decide +kernel) (by decide +kernel)
theorem allAtoms_all (ts : List Jvm.Cond) (a : Array Jvm.Value) (st : Jvm.State) : (allAtoms ts).before a st = ts.all (fun c => c.before a st) := by
  induction ts with
  | nil => rfl
  | cons c t ih =>
    show (Jvm.Cond.and c (allAtoms t)).before a st = _
    rw [Jvm.Cond.before_and, ih, List.all_cons]
def words1 : List Jvm.Cond := Jvm.Cond.code x code maxLocals ret :: tables_1
/-- a 'code' word, met by the world's own term for the bytes: nothing is compared byte by byte -/
theorem code_word {y : MethodName} {bytes : ByteArray} {mx : Nat} {rt : Option FieldType} {a : Array Value} {s : State} {m : MethodId} {meth : Method} {c : Code} (h1 : s.methodNamed? y = some m) (h2 : s.vm.method? m = some meth) (h3 : meth.code = some c) (h4 : c.code = bytes)
    (h5 : (c.maxLocals == mx && c.exceptionTable.isEmpty && decide (c.maxStack ≤ mostOperands) && decide (meth.sig.returnType = rt) && !meth.locks && decide (parseMethodDescriptor y.desc = some meth.sig)) = true) : (Jvm.Cond.code y bytes mx rt).before a s = true := by
  simp only [Bool.and_eq_true, beq_iff_eq, Bool.not_eq_true', decide_eq_true_eq] at h5
  obtain ⟨⟨⟨⟨⟨g1, g2⟩, g3⟩, g4⟩, g5⟩, g6⟩ := h5
  simp [Cond.before, Cond.holds, Cond.value, h1, h2, h3, h4, g1, g2, g3, g4, g5, g6]
def isCode : Jvm.Cond → Bool
  | .code _ _ _ _ => true
  | _ => false
theorem all_split {L : List Jvm.Cond} {P : Jvm.Cond → Bool} (h1 : L.all (fun c => isCode c || P c) = true) (h2 : ∀ c ∈ L.filter isCode, P c = true) : L.all P = true := by
  refine List.all_eq_true.mpr fun c hc => ?_
  have h := List.all_eq_true.mp h1 c hc
  rcases Bool.eq_false_or_eq_true (isCode c) with hi | hi
  · exact h2 c (List.mem_filter.mpr ⟨hc, hi⟩)
  · simpa [hi] using h
set_option maxRecDepth 65536 in
theorem w_c0 : (Jvm.Cond.code x code maxLocals ret).before args0 about1 = true := code_word (m := ⟨1, 4⟩) (meth := k1m4) (c := k1c4) (by decide +kernel) rfl rfl rfl (by decide +kernel)
set_option maxRecDepth 65536 in
theorem w_c1 : (Jvm.Cond.code ({ cls := "com/example/narada/narada/ObjectAddressEqualsPinLaw", name := "make", desc := "(I)Ljava/lang/String;" } : Jvm.MethodName) method_3_code (4 : Nat) (Option.some (Jvm.ClassFile.FieldType.object "java/lang/String"))).before args0 about1 = true := code_word (m := ⟨1, 2⟩) (meth := k1m2) (c := k1c2) (by decide +kernel) rfl rfl rfl (by decide +kernel)
set_option maxRecDepth 65536 in
theorem w_c2 : (Jvm.Cond.code ({ cls := "com/example/narada/narada/ObjectAddressEqualsPinLaw", name := "fix", desc := "(I)C" } : Jvm.MethodName) method_2_code (1 : Nat) (Option.some Jvm.ClassFile.FieldType.char)).before args0 about1 = true := code_word (m := ⟨1, 1⟩) (meth := k1m1) (c := k1c1) (by decide +kernel) rfl rfl rfl (by decide +kernel)
set_option maxRecDepth 65536 in
theorem w_c3 : (Jvm.Cond.code ({ cls := "java/lang/String", name := "<init>", desc := "([C)V" } : Jvm.MethodName) jdk_42_method_3_code (2 : Nat) (Option.none : Option Jvm.ClassFile.FieldType)).before args0 about1 = true := code_word (m := ⟨7, 1⟩) (meth := k7m1) (c := k7c1) (by decide +kernel) rfl rfl rfl (by decide +kernel)
set_option maxRecDepth 65536 in
theorem w_c4 : (Jvm.Cond.code ({ cls := "java/lang/String", name := "<init>", desc := "([CIILjava/lang/Void;)V" } : Jvm.MethodName) jdk_42_method_149_code (6 : Nat) (Option.none : Option Jvm.ClassFile.FieldType)).before args0 about1 = true := code_word (m := ⟨7, 8⟩) (meth := k7m8) (c := k7c8) (by decide +kernel) rfl rfl rfl (by decide +kernel)
set_option maxRecDepth 65536 in
theorem w_c5 : (Jvm.Cond.code ({ cls := "java/lang/Object", name := "<init>", desc := "()V" } : Jvm.MethodName) object_method_1_code (1 : Nat) (Option.none : Option Jvm.ClassFile.FieldType)).before args0 about1 = true := code_word (m := ⟨0, 0⟩) (meth := k0m0) (c := k0c0) (by decide +kernel) rfl rfl rfl (by decide +kernel)
set_option maxRecDepth 65536 in
theorem w_c6 : (Jvm.Cond.code ({ cls := "java/lang/StringUTF16", name := "compress", desc := "([CII)[B" } : Jvm.MethodName) jdk_52_method_16_code (6 : Nat) (Option.some (Jvm.ClassFile.FieldType.array Jvm.ClassFile.FieldType.byte))).before args0 about1 = true := code_word (m := ⟨8, 2⟩) (meth := k8m2) (c := k8c2) (by decide +kernel) rfl rfl rfl (by decide +kernel)
set_option maxRecDepth 65536 in
theorem w_c7 : (Jvm.Cond.code ({ cls := "java/lang/StringUTF16", name := "compress", desc := "([CI[BII)I" } : Jvm.MethodName) jdk_52_method_21_code (7 : Nat) (Option.some Jvm.ClassFile.FieldType.int)).before args0 about1 = true := code_word (m := ⟨8, 3⟩) (meth := k8m3) (c := k8c3) (by decide +kernel) rfl rfl rfl (by decide +kernel)
set_option maxRecDepth 65536 in
theorem w_c8 : (Jvm.Cond.code ({ cls := "java/lang/StringUTF16", name := "coderFromArrayLen", desc := "([BI)B" } : Jvm.MethodName) jdk_52_method_15_code (2 : Nat) (Option.some Jvm.ClassFile.FieldType.byte)).before args0 about1 = true := code_word (m := ⟨8, 1⟩) (meth := k8m1) (c := k8c1) (by decide +kernel) rfl rfl rfl (by decide +kernel)
set_option maxRecDepth 65536 in
theorem w_c9 : (Jvm.Cond.code ({ cls := "com/example/narada/narada/ObjectAddress", name := "<init>", desc := "(Ljava/lang/String;J)V" } : Jvm.MethodName) prog_13_method_1_code (4 : Nat) (Option.none : Option Jvm.ClassFile.FieldType)).before args0 about1 = true := code_word (m := ⟨9, 0⟩) (meth := k9m0) (c := k9c0) (by decide +kernel) rfl rfl rfl (by decide +kernel)
set_option maxRecDepth 65536 in
theorem w_c10 : (Jvm.Cond.code ({ cls := "java/lang/String", name := "isEmpty", desc := "()Z" } : Jvm.MethodName) jdk_42_method_55_code (1 : Nat) (Option.some Jvm.ClassFile.FieldType.boolean)).before args0 about1 = true := code_word (m := ⟨7, 3⟩) (meth := k7m3) (c := k7c3) (by decide +kernel) rfl rfl rfl (by decide +kernel)
set_option maxRecDepth 65536 in
theorem w_c11 : (Jvm.Cond.code ({ cls := "java/lang/String", name := "equals", desc := "(Ljava/lang/Object;)Z" } : Jvm.MethodName) jdk_42_method_66_code (3 : Nat) (Option.some Jvm.ClassFile.FieldType.boolean)).before args0 about1 = true := code_word (m := ⟨7, 5⟩) (meth := k7m5) (c := k7c5) (by decide +kernel) rfl rfl rfl (by decide +kernel)
set_option maxRecDepth 65536 in
theorem w_c12 : (Jvm.Cond.code ({ cls := "java/lang/StringLatin1", name := "equals", desc := "([B[B)Z" } : Jvm.MethodName) jdk_43_method_13_code (3 : Nat) (Option.some Jvm.ClassFile.FieldType.boolean)).before args0 about1 = true := code_word (m := ⟨10, 3⟩) (meth := k10m3) (c := k10c3) (by decide +kernel) rfl rfl rfl (by decide +kernel)
set_option maxRecDepth 65536 in
theorem w_c13 : (Jvm.Cond.code ({ cls := "java/lang/String", name := "indexOf", desc := "(I)I" } : Jvm.MethodName) jdk_42_method_79_code (2 : Nat) (Option.some Jvm.ClassFile.FieldType.int)).before args0 about1 = true := code_word (m := ⟨7, 6⟩) (meth := k7m6) (c := k7c6) (by decide +kernel) rfl rfl rfl (by decide +kernel)
set_option maxRecDepth 65536 in
theorem w_c14 : (Jvm.Cond.code ({ cls := "java/lang/String", name := "indexOf", desc := "(II)I" } : Jvm.MethodName) jdk_42_method_80_code (3 : Nat) (Option.some Jvm.ClassFile.FieldType.int)).before args0 about1 = true := code_word (m := ⟨7, 7⟩) (meth := k7m7) (c := k7c7) (by decide +kernel) rfl rfl rfl (by decide +kernel)
set_option maxRecDepth 65536 in
theorem w_c15 : (Jvm.Cond.code ({ cls := "java/lang/String", name := "isLatin1", desc := "()Z" } : Jvm.MethodName) jdk_42_method_154_code (1 : Nat) (Option.some Jvm.ClassFile.FieldType.boolean)).before args0 about1 = true := code_word (m := ⟨7, 10⟩) (meth := k7m10) (c := k7c10) (by decide +kernel) rfl rfl rfl (by decide +kernel)
set_option maxRecDepth 65536 in
theorem w_c16 : (Jvm.Cond.code ({ cls := "java/lang/String", name := "length", desc := "()I" } : Jvm.MethodName) jdk_42_method_54_code (1 : Nat) (Option.some Jvm.ClassFile.FieldType.int)).before args0 about1 = true := code_word (m := ⟨7, 2⟩) (meth := k7m2) (c := k7c2) (by decide +kernel) rfl rfl rfl (by decide +kernel)
set_option maxRecDepth 65536 in
theorem w_c17 : (Jvm.Cond.code ({ cls := "java/lang/String", name := "coder", desc := "()B" } : Jvm.MethodName) jdk_42_method_152_code (1 : Nat) (Option.some Jvm.ClassFile.FieldType.byte)).before args0 about1 = true := code_word (m := ⟨7, 9⟩) (meth := k7m9) (c := k7c9) (by decide +kernel) rfl rfl rfl (by decide +kernel)
set_option maxRecDepth 65536 in
theorem w_c18 : (Jvm.Cond.code ({ cls := "java/lang/StringLatin1", name := "indexOf", desc := "([BIII)I" } : Jvm.MethodName) jdk_43_method_22_code (4 : Nat) (Option.some Jvm.ClassFile.FieldType.int)).before args0 about1 = true := code_word (m := ⟨10, 4⟩) (meth := k10m4) (c := k10c4) (by decide +kernel) rfl rfl rfl (by decide +kernel)
set_option maxRecDepth 65536 in
theorem w_c19 : (Jvm.Cond.code ({ cls := "java/lang/StringLatin1", name := "canEncode", desc := "(I)Z" } : Jvm.MethodName) jdk_43_method_4_code (1 : Nat) (Option.some Jvm.ClassFile.FieldType.boolean)).before args0 about1 = true := code_word (m := ⟨10, 2⟩) (meth := k10m2) (c := k10c2) (by decide +kernel) rfl rfl rfl (by decide +kernel)
set_option maxRecDepth 65536 in
theorem w_c20 : (Jvm.Cond.code ({ cls := "java/lang/Math", name := "max", desc := "(II)I" } : Jvm.MethodName) jdk_29_method_65_code (2 : Nat) (Option.some Jvm.ClassFile.FieldType.int)).before args0 about1 = true := code_word (m := ⟨11, 1⟩) (meth := k11m1) (c := k11c1) (by decide +kernel) rfl rfl rfl (by decide +kernel)
set_option maxRecDepth 65536 in
theorem w_c21 : (Jvm.Cond.code ({ cls := "java/lang/Math", name := "min", desc := "(II)I" } : Jvm.MethodName) jdk_29_method_69_code (2 : Nat) (Option.some Jvm.ClassFile.FieldType.int)).before args0 about1 = true := code_word (m := ⟨11, 2⟩) (meth := k11m2) (c := k11c2) (by decide +kernel) rfl rfl rfl (by decide +kernel)
set_option maxRecDepth 65536 in
theorem w_c22 : (Jvm.Cond.code ({ cls := "java/lang/StringLatin1", name := "indexOfChar", desc := "([BIII)I" } : Jvm.MethodName) jdk_43_method_23_code (6 : Nat) (Option.some Jvm.ClassFile.FieldType.int)).before args0 about1 = true := code_word (m := ⟨10, 5⟩) (meth := k10m5) (c := k10c5) (by decide +kernel) rfl rfl rfl (by decide +kernel)
set_option maxRecDepth 65536 in
theorem w_c23 : (Jvm.Cond.code ({ cls := "com/example/narada/narada/ObjectAddress", name := "equals", desc := "(Ljava/lang/Object;)Z" } : Jvm.MethodName) prog_13_method_4_code (2 : Nat) (Option.some Jvm.ClassFile.FieldType.boolean)).before args0 about1 = true := code_word (m := ⟨9, 1⟩) (meth := k9m1) (c := k9c1) (by decide +kernel) rfl rfl rfl (by decide +kernel)
set_option maxRecDepth 65536 in
theorem w_c24 : (Jvm.Cond.code ({ cls := "com/example/narada/narada/ObjectAddressEqualsPinLaw", name := "sameStr", desc := "(Ljava/lang/String;Ljava/lang/String;)Z" } : Jvm.MethodName) method_4_code (2 : Nat) (Option.some Jvm.ClassFile.FieldType.boolean)).before args0 about1 = true := code_word (m := ⟨1, 3⟩) (meth := k1m3) (c := k1c3) (by decide +kernel) rfl rfl rfl (by decide +kernel)
set_option maxRecDepth 65536 in
theorem w_c25 : (Jvm.Cond.code ({ cls := "java/lang/String", name := "charAt", desc := "(I)C" } : Jvm.MethodName) jdk_42_method_56_code (2 : Nat) (Option.some Jvm.ClassFile.FieldType.char)).before args0 about1 = true := code_word (m := ⟨7, 4⟩) (meth := k7m4) (c := k7c4) (by decide +kernel) rfl rfl rfl (by decide +kernel)
set_option maxRecDepth 65536 in
theorem w_c26 : (Jvm.Cond.code ({ cls := "java/lang/StringLatin1", name := "charAt", desc := "([BI)C" } : Jvm.MethodName) jdk_43_method_2_code (2 : Nat) (Option.some Jvm.ClassFile.FieldType.char)).before args0 about1 = true := code_word (m := ⟨10, 1⟩) (meth := k10m1) (c := k10c1) (by decide +kernel) rfl rfl rfl (by decide +kernel)
set_option maxRecDepth 65536 in
theorem w_c27 : (Jvm.Cond.code ({ cls := "java/lang/String", name := "checkIndex", desc := "(II)V" } : Jvm.MethodName) jdk_42_method_155_code (2 : Nat) (Option.none : Option Jvm.ClassFile.FieldType)).before args0 about1 = true := code_word (m := ⟨7, 11⟩) (meth := k7m11) (c := k7c11) (by decide +kernel) rfl rfl rfl (by decide +kernel)
set_option maxRecDepth 65536 in
theorem w_c28 : (Jvm.Cond.code ({ cls := "jdk/internal/util/Preconditions", name := "checkIndex", desc := "(IILjava/util/function/BiFunction;)I" } : Jvm.MethodName) jdk_41_method_11_code (3 : Nat) (Option.some Jvm.ClassFile.FieldType.int)).before args0 about1 = true := code_word (m := ⟨12, 1⟩) (meth := k12m1) (c := k12c1) (by decide +kernel) rfl rfl rfl (by decide +kernel)
def codes1 : List Jvm.Cond := [Jvm.Cond.code x code maxLocals ret, Jvm.Cond.code ({ cls := "com/example/narada/narada/ObjectAddressEqualsPinLaw", name := "make", desc := "(I)Ljava/lang/String;" } : Jvm.MethodName) method_3_code (4 : Nat) (Option.some (Jvm.ClassFile.FieldType.object "java/lang/String")), Jvm.Cond.code ({ cls := "com/example/narada/narada/ObjectAddressEqualsPinLaw", name := "fix", desc := "(I)C" } : Jvm.MethodName) method_2_code (1 : Nat) (Option.some Jvm.ClassFile.FieldType.char), Jvm.Cond.code ({ cls := "java/lang/String", name := "<init>", desc := "([C)V" } : Jvm.MethodName) jdk_42_method_3_code (2 : Nat) (Option.none : Option Jvm.ClassFile.FieldType), Jvm.Cond.code ({ cls := "java/lang/String", name := "<init>", desc := "([CIILjava/lang/Void;)V" } : Jvm.MethodName) jdk_42_method_149_code (6 : Nat) (Option.none : Option Jvm.ClassFile.FieldType), Jvm.Cond.code ({ cls := "java/lang/Object", name := "<init>", desc := "()V" } : Jvm.MethodName) object_method_1_code (1 : Nat) (Option.none : Option Jvm.ClassFile.FieldType), Jvm.Cond.code ({ cls := "java/lang/StringUTF16", name := "compress", desc := "([CII)[B" } : Jvm.MethodName) jdk_52_method_16_code (6 : Nat) (Option.some (Jvm.ClassFile.FieldType.array Jvm.ClassFile.FieldType.byte)), Jvm.Cond.code ({ cls := "java/lang/StringUTF16", name := "compress", desc := "([CI[BII)I" } : Jvm.MethodName) jdk_52_method_21_code (7 : Nat) (Option.some Jvm.ClassFile.FieldType.int), Jvm.Cond.code ({ cls := "java/lang/StringUTF16", name := "coderFromArrayLen", desc := "([BI)B" } : Jvm.MethodName) jdk_52_method_15_code (2 : Nat) (Option.some Jvm.ClassFile.FieldType.byte), Jvm.Cond.code ({ cls := "com/example/narada/narada/ObjectAddress", name := "<init>", desc := "(Ljava/lang/String;J)V" } : Jvm.MethodName) prog_13_method_1_code (4 : Nat) (Option.none : Option Jvm.ClassFile.FieldType), Jvm.Cond.code ({ cls := "java/lang/String", name := "isEmpty", desc := "()Z" } : Jvm.MethodName) jdk_42_method_55_code (1 : Nat) (Option.some Jvm.ClassFile.FieldType.boolean), Jvm.Cond.code ({ cls := "java/lang/String", name := "equals", desc := "(Ljava/lang/Object;)Z" } : Jvm.MethodName) jdk_42_method_66_code (3 : Nat) (Option.some Jvm.ClassFile.FieldType.boolean), Jvm.Cond.code ({ cls := "java/lang/StringLatin1", name := "equals", desc := "([B[B)Z" } : Jvm.MethodName) jdk_43_method_13_code (3 : Nat) (Option.some Jvm.ClassFile.FieldType.boolean), Jvm.Cond.code ({ cls := "java/lang/String", name := "indexOf", desc := "(I)I" } : Jvm.MethodName) jdk_42_method_79_code (2 : Nat) (Option.some Jvm.ClassFile.FieldType.int), Jvm.Cond.code ({ cls := "java/lang/String", name := "indexOf", desc := "(II)I" } : Jvm.MethodName) jdk_42_method_80_code (3 : Nat) (Option.some Jvm.ClassFile.FieldType.int), Jvm.Cond.code ({ cls := "java/lang/String", name := "isLatin1", desc := "()Z" } : Jvm.MethodName) jdk_42_method_154_code (1 : Nat) (Option.some Jvm.ClassFile.FieldType.boolean), Jvm.Cond.code ({ cls := "java/lang/String", name := "length", desc := "()I" } : Jvm.MethodName) jdk_42_method_54_code (1 : Nat) (Option.some Jvm.ClassFile.FieldType.int), Jvm.Cond.code ({ cls := "java/lang/String", name := "coder", desc := "()B" } : Jvm.MethodName) jdk_42_method_152_code (1 : Nat) (Option.some Jvm.ClassFile.FieldType.byte), Jvm.Cond.code ({ cls := "java/lang/StringLatin1", name := "indexOf", desc := "([BIII)I" } : Jvm.MethodName) jdk_43_method_22_code (4 : Nat) (Option.some Jvm.ClassFile.FieldType.int), Jvm.Cond.code ({ cls := "java/lang/StringLatin1", name := "canEncode", desc := "(I)Z" } : Jvm.MethodName) jdk_43_method_4_code (1 : Nat) (Option.some Jvm.ClassFile.FieldType.boolean), Jvm.Cond.code ({ cls := "java/lang/Math", name := "max", desc := "(II)I" } : Jvm.MethodName) jdk_29_method_65_code (2 : Nat) (Option.some Jvm.ClassFile.FieldType.int), Jvm.Cond.code ({ cls := "java/lang/Math", name := "min", desc := "(II)I" } : Jvm.MethodName) jdk_29_method_69_code (2 : Nat) (Option.some Jvm.ClassFile.FieldType.int), Jvm.Cond.code ({ cls := "java/lang/StringLatin1", name := "indexOfChar", desc := "([BIII)I" } : Jvm.MethodName) jdk_43_method_23_code (6 : Nat) (Option.some Jvm.ClassFile.FieldType.int), Jvm.Cond.code ({ cls := "com/example/narada/narada/ObjectAddress", name := "equals", desc := "(Ljava/lang/Object;)Z" } : Jvm.MethodName) prog_13_method_4_code (2 : Nat) (Option.some Jvm.ClassFile.FieldType.boolean), Jvm.Cond.code ({ cls := "com/example/narada/narada/ObjectAddressEqualsPinLaw", name := "sameStr", desc := "(Ljava/lang/String;Ljava/lang/String;)Z" } : Jvm.MethodName) method_4_code (2 : Nat) (Option.some Jvm.ClassFile.FieldType.boolean), Jvm.Cond.code ({ cls := "java/lang/String", name := "charAt", desc := "(I)C" } : Jvm.MethodName) jdk_42_method_56_code (2 : Nat) (Option.some Jvm.ClassFile.FieldType.char), Jvm.Cond.code ({ cls := "java/lang/StringLatin1", name := "charAt", desc := "([BI)C" } : Jvm.MethodName) jdk_43_method_2_code (2 : Nat) (Option.some Jvm.ClassFile.FieldType.char), Jvm.Cond.code ({ cls := "java/lang/String", name := "checkIndex", desc := "(II)V" } : Jvm.MethodName) jdk_42_method_155_code (2 : Nat) (Option.none : Option Jvm.ClassFile.FieldType), Jvm.Cond.code ({ cls := "jdk/internal/util/Preconditions", name := "checkIndex", desc := "(IILjava/util/function/BiFunction;)I" } : Jvm.MethodName) jdk_41_method_11_code (3 : Nat) (Option.some Jvm.ClassFile.FieldType.int)]
set_option maxRecDepth 65536 in
theorem codes_eq : words1.filter isCode = codes1 := rfl
theorem w_codes : ∀ c ∈ words1.filter isCode, c.before args0 about1 = true := by
  rw [codes_eq]
  intro c hc
  simp only [codes1, List.mem_cons, List.not_mem_nil, or_false] at hc
  rcases hc with rfl | rfl | rfl | rfl | rfl | rfl | rfl | rfl | rfl | rfl | rfl | rfl | rfl | rfl | rfl | rfl | rfl | rfl | rfl | rfl | rfl | rfl | rfl | rfl | rfl | rfl | rfl | rfl | rfl
  · exact w_c0
  · exact w_c1
  · exact w_c2
  · exact w_c3
  · exact w_c4
  · exact w_c5
  · exact w_c6
  · exact w_c7
  · exact w_c8
  · exact w_c9
  · exact w_c10
  · exact w_c11
  · exact w_c12
  · exact w_c13
  · exact w_c14
  · exact w_c15
  · exact w_c16
  · exact w_c17
  · exact w_c18
  · exact w_c19
  · exact w_c20
  · exact w_c21
  · exact w_c22
  · exact w_c23
  · exact w_c24
  · exact w_c25
  · exact w_c26
  · exact w_c27
  · exact w_c28
set_option maxRecDepth 65536 in
theorem w_t1 : (words1.take 24).all (fun c => isCode c || c.before args0 about1) = true := by decide +kernel
set_option maxRecDepth 65536 in
theorem w_t2 : ((words1.drop 24).take 24).all (fun c => isCode c || c.before args0 about1) = true := by decide +kernel
set_option maxRecDepth 65536 in
theorem w_t3 : (((words1.drop 24).drop 24).take 24).all (fun c => isCode c || c.before args0 about1) = true := by decide +kernel
set_option maxRecDepth 65536 in
theorem w_t4 : ((((words1.drop 24).drop 24).drop 24).take 24).all (fun c => isCode c || c.before args0 about1) = true := by decide +kernel
set_option maxRecDepth 65536 in
theorem w_t5 : (((((words1.drop 24).drop 24).drop 24).drop 24).take 24).all (fun c => isCode c || c.before args0 about1) = true := by decide +kernel
set_option maxRecDepth 65536 in
theorem w_t6 : (((((words1.drop 24).drop 24).drop 24).drop 24).drop 24).all (fun c => isCode c || c.before args0 about1) = true := by decide +kernel
theorem w_tables : (allAtoms (Jvm.Cond.code x code maxLocals ret :: tables_1)).before args0 about1 = true := by
  rw [allAtoms_all]
  show words1.all (fun c => c.before args0 about1) = true
  refine all_split ?_ w_codes
  rw [← List.take_append_drop 24 words1, List.all_append, w_t1, ← List.take_append_drop 24 (words1.drop 24), List.all_append, w_t2, ← List.take_append_drop 24 ((words1.drop 24).drop 24), List.all_append, w_t3, ← List.take_append_drop 24 (((words1.drop 24).drop 24).drop 24), List.all_append, w_t4, ← List.take_append_drop 24 ((((words1.drop 24).drop 24).drop 24).drop 24), List.all_append, w_t5, w_t6]
  rfl
set_option maxRecDepth 65536 in
theorem w_rest : rest_1_c.before args0 about1 = true := by decide +kernel
set_option maxRecDepth 65536 in
theorem w_case : (Jvm.Cond.and given_1 narrow_1).before args0 about1 = true := by decide +kernel
set_option maxRecDepth 65536 in
theorem w_consts : constsHeld consts_1 about1 := Jvm.Lit.constsHeldB_iff.mp (by decide +kernel)
theorem w_applies : (headSpec (Jvm.Cond.code x code maxLocals ret :: tables_1) room_1).applies x e0.platform about1 = true :=
  (Spec.applies_iff w_frames).mpr ⟨w_running, w_runnable, w_alone, w_named, w_hears, w_ripe, w_room, w_tables⟩
theorem atStart : AtStart classFile x code maxLocals ret World_1 tables_1 room_1 Calls_1 rest_1 Pre_1 launch0 p0 e0 about1 theMethod args0 below0 :=
  ⟨lists_1, trivial, launch0.admits_env _ _ _, launch0.least_env, fairChoices_fair.cas, fairChoices_fair.clock, w_frames, w_args, w_heap, w_applies, ⟨w_consts, trivial⟩, w_rest, w_case⟩
end start1
theorem witness_1 : WitnessClaimed_1 := ⟨start1.p0, start1.e0, start1.about1, start1.theMethod, start1.args0, start1.below0, start1.atStart⟩
end Jvm.Pilot.@@N@@
