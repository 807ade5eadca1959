import JvmDerived
import JvmDerived.Pilot.@@N@@Statement
import JvmDerived.Pilot.@@N@@Code
set_option linter.unusedVariables false
set_option linter.unusedSimpArgs false
/- laws to paste: Road.backV (cut by pick.py; bodies as the Statement names them) -/
namespace Jvm.Pilot.@@N@@
namespace StrChars
open Jvm Sem ClassFile Op Lib Jvm.Stand Jvm.Free.XT Jvm.Free.ALB Jvm.Free.JM Jvm.Free
open Jvm.Lib.Cold (StaticIs)
/-- a char array whose places are chars -/
def Ch (a : Addr) (A : Cell) (U : State) : Prop := Arr .char a A U ∧ Typed .char A
theorem Ch.mv {a : Addr} {A : Cell} {U U' : State} (h : Ch a A U) (hal : U.vm.Alike U'.vm) (hh : U'.heap = U.heap) : Ch a A U' := ⟨h.1.mv hal hh, h.2⟩
theorem Ch.keep {a : Addr} {A : Cell} {U U' : State} (h : Ch a A U) (hal : U.vm.Alike U'.vm) (hk : U'.heap[a]? = some A) : Ch a A U' := ⟨h.1.keep hal hk, h.2⟩
/-- what place i of a char[]'s cell holds -/
def cv (A : Cell) (i : Nat) : Int32 := match A.slots[i]? with | some (.int x) => x | _ => 0
theorem Ch.get {a : Addr} {A : Cell} {U : State} (h : Ch a A U) {i : Nat} (hi : i < A.slots.size) : A.slots[i]? = some (.int (cv A i)) := by
  have e := Array.getElem?_eq_getElem hi
  have f := h.2 i _ e
  unfold cv; rw [e]
  generalize A.slots[i] = v at f
  cases v <;> simp [fits] at f ⊢
/-- the byte that i2b leaves of a char -/
def lo8 (x : Int32) : Int32 := x.toInt8.toInt32
theorem fits_lo8 (y : Int32) : fits .byte (.int (lo8 y)) = true := by
  have h1 := y.toInt8.le_toInt
  have h2 := y.toInt8.toInt_lt
  simp only [lo8, fits, Bool.and_eq_true, decide_eq_true_eq, Int32.le_iff_toInt_le, Int8.toInt_toInt32, show (-128 : Int32).toInt = -128 from by decide, show (127 : Int32).toInt = 127 from by decide]
  omega
/-- A' is A but that each place j of lo .. hi - 1 holds f j -/
def Laid (A A' : Cell) (lo hi : Nat) (f : Nat → Value) : Prop := A'.cls = A.cls ∧ A'.vm = A.vm ∧ A'.slots.size = A.slots.size ∧ ∀ i, A'.slots[i]? = if lo ≤ i ∧ i < hi then some (f i) else A.slots[i]?
theorem Laid.zero (A : Cell) (lo : Nat) (f : Nat → Value) : Laid A A lo (lo + 0) f := ⟨rfl, rfl, rfl, fun i => by rw [if_neg (by omega)]⟩
theorem Laid.step {A Ak : Cell} {lo k : Nat} {f : Nat → Value} {v : Value} (h : Laid A Ak lo k f) (hlo : lo ≤ k) (hk : k < Ak.slots.size) (hv : v = f k) : Laid A (Ak.setSlot k v) lo (k + 1) f := by
  refine ⟨h.1, h.2.1, by simpa [Cell.setSlot] using h.2.2.1, fun i => ?_⟩
  by_cases e : k = i
  · subst e; rw [Cell.slots_setSlot_self v hk, if_pos (by omega), hv]
  · rw [Cell.slots_setSlot_ne v e, h.2.2.2 i]
    by_cases q : lo ≤ i ∧ i < k
    · rw [if_pos q, if_pos (by omega)]
    · rw [if_neg q, if_neg (by omega)]
def U16 : String := "java/lang/StringUTF16"
namespace Cmp5
def yN : MethodName := ⟨"java/lang/StringUTF16", "compress", "([CI[BII)I"⟩
abbrev yB : ByteArray := jdk_52_method_21_code
theorem d0 : decode yB 0 = .ok (.iconst 0, 1) := by decide +kernel
theorem d1 : decode yB 1 = .ok (.istore 5, 2) := by decide +kernel
theorem d3 : decode yB 3 = .ok (.iload 5, 2) := by decide +kernel
theorem d5 : decode yB 5 = .ok (.iload 4, 2) := by decide +kernel
theorem d7 : decode yB 7 = .ok (.if_icmp (.ge) 37, 3) := by decide +kernel
theorem d10 : decode yB 10 = .ok (.aload_n 0, 1) := by decide +kernel
theorem d11 : decode yB 11 = .ok (.iload_n 1, 1) := by decide +kernel
theorem d12 : decode yB 12 = .ok (.caload, 1) := by decide +kernel
theorem d13 : decode yB 13 = .ok (.istore 6, 2) := by decide +kernel
theorem d15 : decode yB 15 = .ok (.iload 6, 2) := by decide +kernel
theorem d17 : decode yB 17 = .ok (.sipush 255, 3) := by decide +kernel
theorem d20 : decode yB 20 = .ok (.if_icmp (.le) 6, 3) := by decide +kernel
theorem d26 : decode yB 26 = .ok (.aload_n 2, 1) := by decide +kernel
theorem d27 : decode yB 27 = .ok (.iload_n 3, 1) := by decide +kernel
theorem d28 : decode yB 28 = .ok (.iload 6, 2) := by decide +kernel
theorem d30 : decode yB 30 = .ok (.i2b, 1) := by decide +kernel
theorem d31 : decode yB 31 = .ok (.bastore, 1) := by decide +kernel
theorem d32 : decode yB 32 = .ok (.iinc 1 1, 3) := by decide +kernel
theorem d35 : decode yB 35 = .ok (.iinc 3 1, 3) := by decide +kernel
theorem d38 : decode yB 38 = .ok (.iinc 5 1, 3) := by decide +kernel
theorem d41 : decode yB 41 = .ok (.goto (-38), 3) := by decide +kernel
theorem d44 : decode yB 44 = .ok (.iload 4, 2) := by decide +kernel
theorem d46 : decode yB 46 = .ok (.ireturn, 1) := by decide +kernel
def site : List Cond := []
def tab : Cond := tabOf yN yB 7 (some .int) site
def P (b : Addr) (A : Cell) (d : Addr) (B : Cell) (o q len : Nat) (args : Array Value) (s : State) : Prop := args = #[.ref b, .int (Int32.ofNat o), .ref d, .int (Int32.ofNat q), .int (Int32.ofNat len)] ∧ Ch b A s ∧ Arr .byte d B s ∧ b ≠ d ∧ o + len ≤ A.slots.size ∧ q + len ≤ B.slots.size ∧ ∀ i, i < len → ¬ 255 < cv A (o + i)
def E (b : Addr) (A : Cell) (d : Addr) (B : Cell) (o q len : Nat) (r : Option Value) (s u : State) : Prop := r = some (.int (Int32.ofNat len)) ∧ ∃ B', Put d B' s u ∧ Laid B B' q (q + len) (fun j => Value.int (lo8 (cv A (o + (j - q)))))
/-- no char of the range above 255: len; the places written hold each char's low byte -/
theorem law (l : Launch) (b : Addr) (A : Cell) (d : Addr) (B : Cell) (o q len : Nat) : Law l yN 5 5 0 0 yB 7 (some .int) site (P b A d B o q len) (E b A d B o q len) (copyLocs d q len) 0 0 := by
  refine Law.of_walk (plainFor_of_name (by decide +kernel)) (by decide +kernel) (by decide +kernel) (by decide) (fun _ _ h => by rw [h.1]; rfl) (fun _ U U' hal hh h => ⟨h.1, h.2.1.mv hal hh, h.2.2.1.mv hal hh, h.2.2.2⟩) (fun r U U' V V' h1 hal h2 h => ⟨h.1, h.2.elim fun B' q => ⟨B', q.1.mv h1 h2, q.2⟩⟩) ?_
  intro p e s m args below meth c s₁ X0 hexec hbytes hml hret hlk hnm hown hh0 W hP
  obtain ⟨rfl, hA, hB, hne, l1, l2, hp⟩ := hP
  have c1 : Steps p.tables e below (s₁.setTop (entryFrame m #[.ref b, .int (Int32.ofNat o), .ref d, .int (Int32.ofNat q), .int (Int32.ofNat len)] 7)) (s₁.setTop (mkF m 0 #[.val (.ref b), .val (.int (Int32.ofNat o)), .val (.ref d), .val (.int (Int32.ofNat q)), .val (.int (Int32.ofNat len)), .unset, .unset] [])) := entry rfl
  have hA0 := hA.1.mv X0.warmed.alike hh0
  have hB0 := hB.mv X0.warmed.alike hh0
  have a31 := hA.1.2.2.2
  have c2 : Steps p.tables e below (s₁.setTop (entryFrame m #[.ref b, .int (Int32.ofNat o), .ref d, .int (Int32.ofNat q), .int (Int32.ofNat len)] 7)) (s₁.setTop (mkF m 3 #[.val (.ref b), .val (.int (Int32.ofNat o)), .val (.ref d), .val (.int (Int32.ofNat q)), .val (.int (Int32.ofNat len)), .val (.int 0), .unset] [])) := c1.trans (by
    refine iconstV X0.here hexec rfl 0 (hb hbytes d0) (by decide) ?_
    refine XS.istore X0.here hexec rfl (hb hbytes d1) rfl rfl ?_
    exact Steps.refl _)
  have loop : ∀ (r i : Nat), i + r = len → ∀ (z : Slot), (z = .unset ∨ ∃ w, z = .val w ∧ w.category = 1) → ∀ (Tl : State) (Bk : Cell), Stand p l e { frames := 0, locals := 0, cells := 0, slots := 0 } s m #[.ref b, .int (Int32.ofNat o), .ref d, .int (Int32.ofNat q), .int (Int32.ofNat len)] below meth c Tl ([] ++ copyLocs d q i) 0 0 → Put d Bk s₁ Tl → Laid B Bk q (q + i) (fun j => Value.int (lo8 (cv A (o + (j - q))))) →
      Steps p.tables e below (s₁.setTop (entryFrame m #[.ref b, .int (Int32.ofNat o), .ref d, .int (Int32.ofNat q), .int (Int32.ofNat len)] 7)) (Tl.setTop (mkF m 3 #[.val (.ref b), .val (.int (Int32.ofNat (o + i))), .val (.ref d), .val (.int (Int32.ofNat (q + i))), .val (.int (Int32.ofNat len)), .val (.int (Int32.ofNat i)), z] [])) → ∃ (T' : State) (B' : Cell) (z' : Slot), Stand p l e { frames := 0, locals := 0, cells := 0, slots := 0 } s m #[.ref b, .int (Int32.ofNat o), .ref d, .int (Int32.ofNat q), .int (Int32.ofNat len)] below meth c T' ([] ++ copyLocs d q len) 0 0 ∧ Put d B' s₁ T' ∧ Laid B B' q (q + len) (fun j => Value.int (lo8 (cv A (o + (j - q))))) ∧
      Steps p.tables e below (s₁.setTop (entryFrame m #[.ref b, .int (Int32.ofNat o), .ref d, .int (Int32.ofNat q), .int (Int32.ofNat len)] 7)) (T'.setTop (mkF m 3 #[.val (.ref b), .val (.int (Int32.ofNat (o + len))), .val (.ref d), .val (.int (Int32.ofNat (q + len))), .val (.int (Int32.ofNat len)), .val (.int (Int32.ofNat len)), z'] [])) := by
    intro r
    induction r with
    | zero =>
      intro i hi z hz Tl Bk Xl pl fl cl
      have hil : i = len := by omega
      rw [hil] at Xl fl cl
      exact ⟨Tl, Bk, z, Xl, pl, fl, cl⟩
    | succ r ih =>
      intro i hi z hz Tl Bk Xl pl fl cl
      have all := X0.warmed.alike.symm.trans Xl.warmed.alike
      have hAl := hA0.keep all (pl.other hne hA0.1)
      have hBk := hB0.like all pl.1 fl.1 fl.2.1 fl.2.2.1
      have hlt : q + i < Bk.slots.size := by rw [fl.2.2.1]; omega
      have c3 : Steps p.tables e below (s₁.setTop (entryFrame m #[.ref b, .int (Int32.ofNat o), .ref d, .int (Int32.ofNat q), .int (Int32.ofNat len)] 7)) (Tl.setTop (mkF m 12 #[.val (.ref b), .val (.int (Int32.ofNat (o + i))), .val (.ref d), .val (.int (Int32.ofNat (q + i))), .val (.int (Int32.ofNat len)), .val (.int (Int32.ofNat i)), z] [.int (Int32.ofNat (o + i)), .ref b])) := cl.trans (by
        refine XS.iload Xl.here hexec rfl (hb hbytes d3) rfl ?_
        refine XS.iload Xl.here hexec rfl (hb hbytes d5) rfl ?_
        refine XS.icmpNo Xl.here hexec rfl (hb hbytes d7) rfl (ii_ge_f (lt32 (by omega) (by omega))) ?_
        refine XS.aloadN Xl.here hexec rfl (hb hbytes d10) rfl rfl ?_
        refine XS.iloadN Xl.here hexec rfl (hb hbytes d11) rfl ?_
        exact Steps.refl _)
      have c4 : Steps p.tables e below (s₁.setTop (entryFrame m #[.ref b, .int (Int32.ofNat o), .ref d, .int (Int32.ofNat q), .int (Int32.ofNat len)] 7)) (Tl.setTop (mkF m 13 #[.val (.ref b), .val (.int (Int32.ofNat (o + i))), .val (.ref d), .val (.int (Int32.ofNat (q + i))), .val (.int (Int32.ofNat len)), .val (.int (Int32.ofNat i)), z] [.int (cv A (o + i))])) := c3.trans (by
        refine Xl.aget hexec hAl rfl (hA.get (i := o + i) (by omega)) rfl rfl (hb hbytes d12) ?_
        exact Steps.refl _)
      have c5 : Steps p.tables e below (s₁.setTop (entryFrame m #[.ref b, .int (Int32.ofNat o), .ref d, .int (Int32.ofNat q), .int (Int32.ofNat len)] 7)) (Tl.setTop (mkF m 15 #[.val (.ref b), .val (.int (Int32.ofNat (o + i))), .val (.ref d), .val (.int (Int32.ofNat (q + i))), .val (.int (Int32.ofNat len)), .val (.int (Int32.ofNat i)), .val (.int (cv A (o + i)))] [])) := c4.trans (by
        refine XS.istoreS Xl.here hexec rfl (hb hbytes d13) rfl rfl hz ?_
        exact Steps.refl _)
      have c6 : Steps p.tables e below (s₁.setTop (entryFrame m #[.ref b, .int (Int32.ofNat o), .ref d, .int (Int32.ofNat q), .int (Int32.ofNat len)] 7)) (Tl.setTop (mkF m 31 #[.val (.ref b), .val (.int (Int32.ofNat (o + i))), .val (.ref d), .val (.int (Int32.ofNat (q + i))), .val (.int (Int32.ofNat len)), .val (.int (Int32.ofNat i)), .val (.int (cv A (o + i)))] [.int (lo8 (cv A (o + i))), .int (Int32.ofNat (q + i)), .ref d])) := c5.trans (by
        refine XS.iload Xl.here hexec rfl (hb hbytes d15) rfl ?_
        refine sipushV Xl.here hexec rfl 255 (hb hbytes d17) (by decide) ?_
        refine XS.icmpYes Xl.here hexec rfl (pc0 := 20) rfl (hb hbytes d20) rfl (ii_le_t (hp i (by omega))) (by decide) rfl ?_
        refine XS.aloadN Xl.here hexec rfl (hb hbytes d26) rfl rfl ?_
        refine XS.iloadN Xl.here hexec rfl (hb hbytes d27) rfl ?_
        refine XS.iload Xl.here hexec rfl (hb hbytes d28) rfl ?_
        refine i2b Xl.here hexec rfl (hb hbytes d30) rfl ?_
        exact Steps.refl _)
      obtain ⟨T7, X7, p7, st7⟩ := Xl.aput hexec hBk rfl hlt rfl (fits_lo8 (cv A (o + i))) (g := (mkF m 31 #[.val (.ref b), .val (.int (Int32.ofNat (o + i))), .val (.ref d), .val (.int (Int32.ofNat (q + i))), .val (.int (Int32.ofNat len)), .val (.int (Int32.ofNat i)), .val (.int (cv A (o + i)))] [.int (lo8 (cv A (o + i))), .int (Int32.ofNat (q + i)), .ref d])) rfl (rest := []) rfl (hb hbytes d31)
      have c8 : Steps p.tables e below (s₁.setTop (entryFrame m #[.ref b, .int (Int32.ofNat o), .ref d, .int (Int32.ofNat q), .int (Int32.ofNat len)] 7)) (T7.setTop (mkF m 32 #[.val (.ref b), .val (.int (Int32.ofNat (o + i))), .val (.ref d), .val (.int (Int32.ofNat (q + i))), .val (.int (Int32.ofNat len)), .val (.int (Int32.ofNat i)), .val (.int (cv A (o + i)))] [])) := c6.trans (st7 _ (Steps.refl _))
      have c9 : Steps p.tables e below (s₁.setTop (entryFrame m #[.ref b, .int (Int32.ofNat o), .ref d, .int (Int32.ofNat q), .int (Int32.ofNat len)] 7)) (T7.setTop (mkF m 3 #[.val (.ref b), .val (.int (Int32.ofNat (o + i) + 1)), .val (.ref d), .val (.int (Int32.ofNat (q + i) + 1)), .val (.int (Int32.ofNat len)), .val (.int (Int32.ofNat i + 1)), .val (.int (cv A (o + i)))] [])) := c8.trans (by
        refine iincV X7.here hexec rfl 1 (hb hbytes d32) (by decide) rfl rfl ?_
        refine iincV X7.here hexec rfl 1 (hb hbytes d35) (by decide) rfl rfl ?_
        refine iincV X7.here hexec rfl 1 (hb hbytes d38) (by decide) rfl rfl ?_
        refine XS.goto X7.here hexec rfl (pc0 := 41) rfl (hb hbytes d41) (by decide) rfl ?_
        exact Steps.refl _)
      have c10 : Steps p.tables e below (s₁.setTop (entryFrame m #[.ref b, .int (Int32.ofNat o), .ref d, .int (Int32.ofNat q), .int (Int32.ofNat len)] 7)) (T7.setTop (mkF m 3 #[.val (.ref b), .val (.int (Int32.ofNat (o + (i + 1)))), .val (.ref d), .val (.int (Int32.ofNat (q + (i + 1)))), .val (.int (Int32.ofNat len)), .val (.int (Int32.ofNat (i + 1))), .val (.int (cv A (o + i)))] [])) := by
        have := c9
        rw [succ32, succ32, succ32] at this
        exact this
      exact ih (i + 1) (by omega) _ (Or.inr ⟨_, rfl, rfl⟩) T7 _ (by rw [copyLocs_step, ← List.append_assoc]; exact X7) (pl.trans p7) (fl.step (by omega) hlt (by simp)) c10
  obtain ⟨T9, B9, z9, X9, p9, f9, g9⟩ := loop len 0 (by omega) .unset (Or.inl rfl) s₁ B (by simpa [copyLocs] using X0) ⟨hB0.1, fun _ _ => rfl, rfl⟩ (Laid.zero _ _ _) c2
  have c11 : Steps p.tables e below (s₁.setTop (entryFrame m #[.ref b, .int (Int32.ofNat o), .ref d, .int (Int32.ofNat q), .int (Int32.ofNat len)] 7)) (T9.setTop (mkF m 46 #[.val (.ref b), .val (.int (Int32.ofNat (o + len))), .val (.ref d), .val (.int (Int32.ofNat (q + len))), .val (.int (Int32.ofNat len)), .val (.int (Int32.ofNat len)), z9] [.int (Int32.ofNat len)])) := g9.trans (by
    refine XS.iload X9.here hexec rfl (hb hbytes d3) rfl ?_
    refine XS.iload X9.here hexec rfl (hb hbytes d5) rfl ?_
    refine XS.icmpYes X9.here hexec rfl (pc0 := 7) rfl (hb hbytes d7) rfl (ii_ge_t (nlt32 (by omega) (Nat.le_refl _))) (by decide) rfl ?_
    refine XS.iload X9.here hexec rfl (hb hbytes d44) rfl ?_
    exact Steps.refl _)
  exact ⟨T9, some (.int (Int32.ofNat len)), _, _, _, X9, by simp, rfl, rfl, (fun h => by cases h), ⟨rfl, B9, p9.from hh0, f9⟩, fun fs hl => c11.trans (X9.ireturnOut hexec hret rfl (Or.inl rfl) (hb hbytes d46) hl)⟩
end Cmp5
namespace Cmp3
def yN : MethodName := ⟨"java/lang/StringUTF16", "compress", "([CII)[B"⟩
abbrev yB : ByteArray := jdk_52_method_16_code
theorem d0 : decode yB 0 = .ok (.iload_n 2, 1) := by decide +kernel
theorem d1 : decode yB 1 = .ok (.newarray .byte, 2) := by decide +kernel
theorem d3 : decode yB 3 = .ok (.astore_n 3, 1) := by decide +kernel
theorem d4 : decode yB 4 = .ok (.aload_n 0, 1) := by decide +kernel
theorem d5 : decode yB 5 = .ok (.iload_n 1, 1) := by decide +kernel
theorem d6 : decode yB 6 = .ok (.aload_n 3, 1) := by decide +kernel
theorem d7 : decode yB 7 = .ok (.iconst 0, 1) := by decide +kernel
theorem d8 : decode yB 8 = .ok (.iload_n 2, 1) := by decide +kernel
theorem d9 : decode yB 9 = .ok (.invokestatic 115, 3) := by decide +kernel
theorem d12 : decode yB 12 = .ok (.istore 4, 2) := by decide +kernel
theorem d14 : decode yB 14 = .ok (.iload 4, 2) := by decide +kernel
theorem d16 : decode yB 16 = .ok (.iload_n 2, 1) := by decide +kernel
theorem d17 : decode yB 17 = .ok (.if_icmp (.eq) 40, 3) := by decide +kernel
theorem d57 : decode yB 57 = .ok (.aload_n 3, 1) := by decide +kernel
theorem d58 : decode yB 58 = .ok (.areturn, 1) := by decide +kernel
def site : List Cond := [.arrayClass .byte, Cmp5.tab] ++ staticW U16 115 Cmp5.yN
def tab : Cond := tabOf yN yB 6 (some (.array .byte)) site
def P (b : Addr) (A : Cell) (o len : Nat) (args : Array Value) (s : State) : Prop := args = #[.ref b, .int (Int32.ofNat o), .int (Int32.ofNat len)] ∧ Ch b A s ∧ o + len ≤ A.slots.size ∧ len ≤ 536870912 ∧ ∀ i, i < len → ¬ 255 < cv A (o + i)
def E (b : Addr) (A : Cell) (o len : Nat) (r : Option Value) (s u : State) : Prop := NewArr .byte "[B" len (fun j => .int (lo8 (cv A (o + j)))) r s u ∧ u.heap.size = s.heap.size + 1
/-- no char of the range above 255: a new byte[] of their low bytes -/
theorem law (l : Launch) (b : Addr) (A : Cell) (o len : Nat) : Law l yN 3 3 1 18 yB 6 (some (.array .byte)) site (P b A o len) (E b A o len) [] 1 len := by
  refine Law.of_walk (plainFor_of_name (by decide +kernel)) (by decide +kernel) (by decide +kernel) (by decide) (fun _ _ h => by rw [h.1]; rfl) (fun _ U U' hal hh h => ⟨h.1, h.2.1.mv hal hh, h.2.2⟩) (fun r U U' V V' h1 hal h2 h => ⟨NewArr.mv r U U' V V' h1 hal h2 h.1, by rw [h1, h2]; exact h.2⟩) ?_
  intro p e s m args below meth c s₁ X0 hexec hbytes hml hret hlk hnm hown hh0 W hP
  obtain ⟨rfl, hA, l1, l2, hp⟩ := hP
  have a31 := hA.1.2.2.2
  have c1 : Steps p.tables e below (s₁.setTop (entryFrame m #[.ref b, .int (Int32.ofNat o), .int (Int32.ofNat len)] 6)) (s₁.setTop (mkF m 0 #[.val (.ref b), .val (.int (Int32.ofNat o)), .val (.int (Int32.ofNat len)), .unset, .unset, .unset] [])) := entry rfl
  have c2 : Steps p.tables e below (s₁.setTop (entryFrame m #[.ref b, .int (Int32.ofNat o), .int (Int32.ofNat len)] 6)) (s₁.setTop (mkF m 1 #[.val (.ref b), .val (.int (Int32.ofNat o)), .val (.int (Int32.ofNat len)), .unset, .unset, .unset] [.int (Int32.ofNat len)])) := c1.trans (by
    refine XS.iloadN X0.here hexec rfl (hb hbytes d0) rfl ?_
    exact Steps.refl _)
  obtain ⟨T3, B3, X3, ba3, bs3, bv3, bh3, bf3, st3⟩ := X0.anew hexec (atype := .byte) (wk W (.arrayClass .byte)) rfl (by show len * 1 ≤ _; omega) (by omega) (g := (mkF m 1 #[.val (.ref b), .val (.int (Int32.ofNat o)), .val (.int (Int32.ofNat len)), .unset, .unset, .unset] [.int (Int32.ofNat len)])) rfl (hb hbytes d1) (rest := []) rfl (Nat.le_refl _) (by show 0 + len ≤ len; omega)
  rw [hh0] at ba3 st3
  have kp3 : XT.Kept s T3 := (XT.Kept.of_eq hh0).push bh3
  have hA3 := hA.keep X3.warmed.alike (kp3 _ _ hA.1.1)
  have hne : b ≠ s.heap.size := hA.1.ne
  have c4 : Steps p.tables e below (s₁.setTop (entryFrame m #[.ref b, .int (Int32.ofNat o), .int (Int32.ofNat len)] 6)) (T3.setTop (mkF m 3 #[.val (.ref b), .val (.int (Int32.ofNat o)), .val (.int (Int32.ofNat len)), .unset, .unset, .unset] [.ref s.heap.size])) := c2.trans (st3 _ (Steps.refl _))
  have c5 : Steps p.tables e below (s₁.setTop (entryFrame m #[.ref b, .int (Int32.ofNat o), .int (Int32.ofNat len)] 6)) (T3.setTop (mkF m 9 #[.val (.ref b), .val (.int (Int32.ofNat o)), .val (.int (Int32.ofNat len)), .val (.ref s.heap.size), .unset, .unset] [.int (Int32.ofNat len), .int 0, .ref s.heap.size, .int (Int32.ofNat o), .ref b])) := c4.trans (by
    refine XS.astoreN X3.here hexec rfl (hb hbytes d3) rfl rfl rfl ?_
    refine XS.aloadN X3.here hexec rfl (hb hbytes d4) rfl rfl ?_
    refine XS.iloadN X3.here hexec rfl (hb hbytes d5) rfl ?_
    refine XS.aloadN X3.here hexec rfl (hb hbytes d6) rfl rfl ?_
    refine iconstV X3.here hexec rfl 0 (hb hbytes d7) (by decide) ?_
    refine XS.iloadN X3.here hexec rfl (hb hbytes d8) rfl ?_
    exact Steps.refl _)
  obtain ⟨v6, T6, X6, E6, g6⟩ := X3.callS hexec (Cmp5.law l b A s.heap.size B3 o 0 len) hown (wks W (staticW U16 115 Cmp5.yN)) (wk W Cmp5.tab) (W := 0) (Nat.le_of_ble_eq_true rfl) (Nat.le_of_ble_eq_true rfl) (Nat.le_refl _) (by show 0 + len + 0 ≤ len; omega) (g := (mkF m 9 #[.val (.ref b), .val (.int (Int32.ofNat o)), .val (.int (Int32.ofNat len)), .val (.ref s.heap.size), .unset, .unset] [.int (Int32.ofNat len), .int (Int32.ofNat 0), .ref s.heap.size, .int (Int32.ofNat o), .ref b])) rfl (by rw [hml]; rfl) c5 (argsL := [.ref b, .int (Int32.ofNat o), .ref s.heap.size, .int (Int32.ofNat 0), .int (Int32.ofNat len)]) (rest := []) rfl rfl (by show 2 * 0 + 0 ≤ _; decide) (hb hbytes d9) (⟨rfl, hA3, ba3, hne, l1, by rw [bs3]; simp, hp⟩)
  obtain ⟨rfl, B6, p6, f6⟩ := E6
  have c7 : Steps p.tables e below (s₁.setTop (entryFrame m #[.ref b, .int (Int32.ofNat o), .int (Int32.ofNat len)] 6)) (T6.setTop (mkF m 12 #[.val (.ref b), .val (.int (Int32.ofNat o)), .val (.int (Int32.ofNat len)), .val (.ref s.heap.size), .unset, .unset] [.int (Int32.ofNat len)])) := g6
  have c8 : Steps p.tables e below (s₁.setTop (entryFrame m #[.ref b, .int (Int32.ofNat o), .int (Int32.ofNat len)] 6)) (T6.setTop (mkF m 58 #[.val (.ref b), .val (.int (Int32.ofNat o)), .val (.int (Int32.ofNat len)), .val (.ref s.heap.size), .val (.int (Int32.ofNat len)), .unset] [.ref s.heap.size])) := c7.trans (by
    refine XS.istore X6.here hexec rfl (hb hbytes d12) rfl rfl ?_
    refine XS.iload X6.here hexec rfl (hb hbytes d14) rfl ?_
    refine XS.iloadN X6.here hexec rfl (hb hbytes d16) rfl ?_
    refine XS.icmpYes X6.here hexec rfl (pc0 := 17) rfl (hb hbytes d17) rfl (ii_eq_t rfl) (by decide) rfl ?_
    refine XS.aloadN X6.here hexec rfl (hb hbytes d57) rfl rfl ?_
    exact Steps.refl _)
  have X8 := X6.wide (L' := []) (cells' := 1) (slots' := len) (fun x hx hlt => by
    simp only [List.nil_append, copyLocs, List.mem_map, List.mem_range] at hx
    obtain ⟨i, -, rfl⟩ := hx
    exact absurd hlt (Nat.lt_irrefl _)) (Nat.le_refl _) (by omega)
  exact ⟨T6, some (.ref s.heap.size), _, _, _, X8, rfl, rfl, rfl, (fun h => by cases h), ⟨⟨rfl, B6, ba3.like (X3.warmed.alike.symm.trans X6.warmed.alike) p6.1 f6.1 f6.2.1 f6.2.2.1, f6.2.1.trans bv3, by rw [X6.warmed.alike.findClass, f6.1]; exact bf3, by rw [f6.2.2.1, bs3]; simp, fun j hj => by rw [f6.2.2.2 j, if_pos (by omega)]; rfl, kp3.put p6 (Nat.le_refl _)⟩, by rw [p6.2.2, bh3, hh0]; simp⟩, fun fs hl => c8.trans (X8.areturnOut hexec rfl hret rfl (hb hbytes d58) hl)⟩
end Cmp3
namespace CodL
def yN : MethodName := ⟨"java/lang/StringUTF16", "coderFromArrayLen", "([BI)B"⟩
abbrev yB : ByteArray := jdk_52_method_15_code
theorem d0 : decode yB 0 = .ok (.iload_n 1, 1) := by decide +kernel
theorem d1 : decode yB 1 = .ok (.aload_n 0, 1) := by decide +kernel
theorem d2 : decode yB 2 = .ok (.arraylength, 1) := by decide +kernel
theorem d3 : decode yB 3 = .ok (.isub, 1) := by decide +kernel
theorem d4 : decode yB 4 = .ok (.bipush 31, 2) := by decide +kernel
theorem d6 : decode yB 6 = .ok (.iushr, 1) := by decide +kernel
theorem d7 : decode yB 7 = .ok (.i2b, 1) := by decide +kernel
theorem d8 : decode yB 8 = .ok (.ireturn, 1) := by decide +kernel
def site : List Cond := []
def tab : Cond := tabOf yN yB 2 (some .byte) site
def P (d : Addr) (B : Cell) (args : Array Value) (s : State) : Prop := args = #[.ref d, .int (Int32.ofNat B.slots.size)] ∧ Arr .byte d B s
def E (r : Option Value) (s u : State) : Prop := XT.PureE (some (.int 0)) r s u
/-- an array as long as the number of chars: LATIN1 -/
theorem law (l : Launch) (d : Addr) (B : Cell) : Law l yN 2 2 0 0 yB 2 (some .byte) site (P d B) E [] 0 0 := by
  refine Law.of_walk (plainFor_of_name (by decide +kernel)) (by decide +kernel) (by decide +kernel) (by decide) (fun _ _ h => by rw [h.1]; rfl) (fun _ U U' hal hh h => ⟨h.1, h.2.mv hal hh⟩) (fun r U U' V V' h1 hal h2 h => XT.PureE.mv r U U' V V' h1 hal h2 h) ?_
  intro p e s m args below meth c s₁ X0 hexec hbytes hml hret hlk hnm hown hh0 W hP
  obtain ⟨rfl, hB⟩ := hP
  have hB0 := hB.mv X0.warmed.alike hh0
  have c1 : Steps p.tables e below (s₁.setTop (entryFrame m #[.ref d, .int (Int32.ofNat B.slots.size)] 2)) (s₁.setTop (mkF m 0 #[.val (.ref d), .val (.int (Int32.ofNat B.slots.size))] [])) := entry rfl
  have c2 : Steps p.tables e below (s₁.setTop (entryFrame m #[.ref d, .int (Int32.ofNat B.slots.size)] 2)) (s₁.setTop (mkF m 2 #[.val (.ref d), .val (.int (Int32.ofNat B.slots.size))] [.ref d, .int (Int32.ofNat B.slots.size)])) := c1.trans (by
    refine XS.iloadN X0.here hexec rfl (hb hbytes d0) rfl ?_
    refine XS.aloadN X0.here hexec rfl (hb hbytes d1) rfl rfl ?_
    exact Steps.refl _)
  have c3 : Steps p.tables e below (s₁.setTop (entryFrame m #[.ref d, .int (Int32.ofNat B.slots.size)] 2)) (s₁.setTop (mkF m 8 #[.val (.ref d), .val (.int (Int32.ofNat B.slots.size))] [.int (lo8 (ushr (Int32.ofNat B.slots.size - Int32.ofNat B.slots.size) 31))])) := c2.trans (by
    refine X0.alen hexec hB0 rfl rfl (hb hbytes d2) ?_
    refine XS.isub X0.here hexec rfl (hb hbytes d3) rfl ?_
    refine bipushV X0.here hexec rfl 31 (hb hbytes d4) (by decide) ?_
    refine iushr X0.here hexec rfl (hb hbytes d6) rfl ?_
    refine i2b X0.here hexec rfl (hb hbytes d7) rfl ?_
    exact Steps.refl _)
  have e0 : lo8 (ushr (Int32.ofNat B.slots.size - Int32.ofNat B.slots.size) 31) = 0 := by rw [Int32.sub_self]; decide
  rw [e0] at c3
  exact ⟨s₁, some (.int 0), _, _, _, X0, rfl, rfl, rfl, (fun h => by cases h), ⟨rfl, hh0⟩, fun fs hl => c3.trans (X0.ireturnOut hexec hret rfl (Or.inr (Or.inr (Or.inl rfl))) (hb hbytes d8) hl)⟩
end CodL
/-- the String at a is Latin-1 over a new byte[] (the heap's one new cell): the low bytes of the len chars of A from o on; every cell but a is kept -/
def Got (a : Addr) (D : Cell) (fV fC : Field) (A : Cell) (o len : Nat) (r : Option Value) (s u : State) : Prop := r = none ∧ ∃ D' V : Cell, Blank "java/lang/String" a D' u ∧ Same D D' [fV.slot, fC.slot] ∧ D'.slots[fV.slot]? = some (.ref s.heap.size) ∧ D'.slots[fC.slot]? = some (.int 0) ∧ Arr .byte s.heap.size V u ∧ V.vm = .none ∧ u.vm.findClass "[B" = some V.cls ∧ V.slots.size = len ∧ (∀ j, j < len → V.slots[j]? = some (.int (lo8 (cv A (o + j))))) ∧ (∀ (y : Addr) (c : Cell), y ≠ a → s.heap[y]? = some c → u.heap[y]? = some c) ∧ u.heap.size = s.heap.size + 1
theorem Got.mv {a : Addr} {D A : Cell} {fV fC : Field} {o len : Nat} : ∀ r (U U' V V' : State), U'.heap = U.heap → V.vm.Alike V'.vm → V'.heap = V.heap → Got a D fV fC A o len r U V → Got a D fV fC A o len r U' V' :=
  fun r U U' V V' h1 hal h2 ⟨e0, D', X, a1, a2, a3, a4, a5, a6, a7, a8, a9, a10, a11⟩ => ⟨e0, D', X, a1.mv hal h2, a2, by rw [h1]; exact a3, a4, by rw [h1]; exact a5.mv hal h2, a6, by rw [hal.findClass]; exact a7, a8, a9, by rw [h1, h2]; exact a10, by rw [h1, h2]; exact a11⟩
namespace New4
def yN : MethodName := ⟨"java/lang/String", "<init>", "([CIILjava/lang/Void;)V"⟩
abbrev yB : ByteArray := jdk_42_method_149_code
theorem d0 : decode yB 0 = .ok (.aload_n 0, 1) := by decide +kernel
theorem d1 : decode yB 1 = .ok (.invokespecial 1, 3) := by decide +kernel
theorem d4 : decode yB 4 = .ok (.iload_n 3, 1) := by decide +kernel
theorem d5 : decode yB 5 = .ok (.ifCond (.ne) 22, 3) := by decide +kernel
theorem d27 : decode yB 27 = .ok (.getstatic 38, 3) := by decide +kernel
theorem d30 : decode yB 30 = .ok (.ifCond (.eq) 28, 3) := by decide +kernel
theorem d33 : decode yB 33 = .ok (.aload_n 1, 1) := by decide +kernel
theorem d34 : decode yB 34 = .ok (.iload_n 2, 1) := by decide +kernel
theorem d35 : decode yB 35 = .ok (.iload_n 3, 1) := by decide +kernel
theorem d36 : decode yB 36 = .ok (.invokestatic 177, 3) := by decide +kernel
theorem d39 : decode yB 39 = .ok (.astore 5, 2) := by decide +kernel
theorem d41 : decode yB 41 = .ok (.aload_n 0, 1) := by decide +kernel
theorem d42 : decode yB 42 = .ok (.aload 5, 2) := by decide +kernel
theorem d44 : decode yB 44 = .ok (.iload_n 3, 1) := by decide +kernel
theorem d45 : decode yB 45 = .ok (.invokestatic 47, 3) := by decide +kernel
theorem d48 : decode yB 48 = .ok (.putfield 15, 3) := by decide +kernel
theorem d51 : decode yB 51 = .ok (.aload_n 0, 1) := by decide +kernel
theorem d52 : decode yB 52 = .ok (.aload 5, 2) := by decide +kernel
theorem d54 : decode yB 54 = .ok (.putfield 9, 3) := by decide +kernel
theorem d57 : decode yB 57 = .ok (.return_, 1) := by decide +kernel
def site : List Cond := [.fieldLink "java/lang/String" 38 "java/lang/String" "COMPACT_STRINGS" "Z", Cmp3.tab, CodL.tab, .laysFinal "java/lang/String" "java/lang/String" "value" "[B", .fieldLink "java/lang/String" 9 "java/lang/String" "value" "[B", .laysFinal "java/lang/String" "java/lang/String" "coder" "B", .fieldLink "java/lang/String" 15 "java/lang/String" "coder" "B"] ++ objW "java/lang/String" 1 ++ staticW "java/lang/String" 177 Cmp3.yN ++ staticW "java/lang/String" 47 CodL.yN
def tab : Cond := tabOf yN yB 6 none site
def P (a : Addr) (D : Cell) (fV fC : Field) (b : Addr) (A : Cell) (z : Int32) (o len : Nat) (args : Array Value) (s : State) : Prop := args = #[.ref a, .ref b, .int (Int32.ofNat o), .int (Int32.ofNat len), .null] ∧ Blank "java/lang/String" a D s ∧ Found "java/lang/String" "value" "[B" fV s ∧ Found "java/lang/String" "coder" "B" fC s ∧ Ch b A s ∧ StaticIs s "java/lang/String" "COMPACT_STRINGS" "Z" (.int z) ∧ ¬ z = 0 ∧ 0 < len ∧ o + len ≤ A.slots.size ∧ len ≤ 536870912 ∧ ∀ i, i < len → ¬ 255 < cv A (o + i)
def E (a : Addr) (D : Cell) (fV fC : Field) (A : Cell) (o len : Nat) (r : Option Value) (s u : State) : Prop := Got a D fV fC A o len r s u
/-- len > 0, no char of the range above 255: a Latin-1 String of their low bytes -/
theorem law (l : Launch) (a : Addr) (D : Cell) (fV fC : Field) (b : Addr) (A : Cell) (z : Int32) (o len : Nat) : Law l yN 5 4 2 35 yB 6 none site (P a D fV fC b A z o len) (E a D fV fC A o len) [⟨a, fC.slot⟩, ⟨a, fV.slot⟩] 1 len := by
  refine Law.of_walk (plainFor_of_name (by decide +kernel)) (by decide +kernel) (by decide +kernel) (by decide) (fun _ _ h => by rw [h.1]; rfl) (fun _ U U' hal hh h => ⟨h.1, h.2.1.mv hal hh, h.2.2.1.al hal, h.2.2.2.1.al hal, h.2.2.2.2.1.mv hal hh, h.2.2.2.2.2.1.there hal hh, h.2.2.2.2.2.2⟩) (fun r U U' V V' h1 hal h2 h => Got.mv r U U' V V' h1 hal h2 h) ?_
  intro p e s m args below meth c s₁ X0 hexec hbytes hml hret hlk hnm hown hh0 W hP
  obtain ⟨rfl, hB, f1, f2, hA, s1, hz, l0, l1, l2, hp⟩ := hP
  have a31 := hA.1.2.2.2
  have c1 : Steps p.tables e below (s₁.setTop (entryFrame m #[.ref a, .ref b, .int (Int32.ofNat o), .int (Int32.ofNat len), .null] 6)) (s₁.setTop (mkF m 0 #[.val (.ref a), .val (.ref b), .val (.int (Int32.ofNat o)), .val (.int (Int32.ofNat len)), .val .null, .unset] [])) := entry rfl
  have c2 : Steps p.tables e below (s₁.setTop (entryFrame m #[.ref a, .ref b, .int (Int32.ofNat o), .int (Int32.ofNat len), .null] 6)) (s₁.setTop (mkF m 1 #[.val (.ref a), .val (.ref b), .val (.int (Int32.ofNat o)), .val (.int (Int32.ofNat len)), .val .null, .unset] [.ref a])) := c1.trans (by
    refine XS.aloadN X0.here hexec rfl (hb hbytes d0) rfl rfl ?_
    exact Steps.refl _)
  obtain ⟨T3, X3, q3, st3⟩ := X0.oinit hexec hown (wks W (objW "java/lang/String" 1)) (g := (mkF m 1 #[.val (.ref a), .val (.ref b), .val (.int (Int32.ofNat o)), .val (.int (Int32.ofNat len)), .val .null, .unset] [.ref a])) rfl (by rw [hml]; rfl) (rest := []) rfl (hb hbytes d1) (W := 0) (by show 2 * 0 + 0 ≤ _; decide) (Nat.le_of_ble_eq_true rfl) (Nat.le_of_ble_eq_true rfl)
  have hh3 := q3.trans hh0
  have c4 : Steps p.tables e below (s₁.setTop (entryFrame m #[.ref a, .ref b, .int (Int32.ofNat o), .int (Int32.ofNat len), .null] 6)) (T3.setTop (mkF m 27 #[.val (.ref a), .val (.ref b), .val (.int (Int32.ofNat o)), .val (.int (Int32.ofNat len)), .val .null, .unset] [])) := (c2.trans (st3 _ (Steps.refl _))).trans (by
    refine XS.iloadN X3.here hexec rfl (hb hbytes d4) rfl ?_
    refine XS.ifYes X3.here hexec rfl (pc0 := 5) rfl (hb hbytes d5) rfl (i0_ne_t (nz32 (by omega) l0)) (by decide) rfl ?_
    exact Steps.refl _)
  obtain ⟨T5, X5, q5, st5⟩ := X3.sget hexec hown (wk W (.fieldLink "java/lang/String" 38 "java/lang/String" "COMPACT_STRINGS" "Z")) s1 (fun _ _ h => by rw [hh3]; exact h) (g := (mkF m 27 #[.val (.ref a), .val (.ref b), .val (.int (Int32.ofNat o)), .val (.int (Int32.ofNat len)), .val .null, .unset] [])) rfl (hb hbytes d27)
  have hh5 := q5.trans hh3
  have c6 : Steps p.tables e below (s₁.setTop (entryFrame m #[.ref a, .ref b, .int (Int32.ofNat o), .int (Int32.ofNat len), .null] 6)) (T5.setTop (mkF m 30 #[.val (.ref a), .val (.ref b), .val (.int (Int32.ofNat o)), .val (.int (Int32.ofNat len)), .val .null, .unset] [.int z])) := c4.trans (st5 _ (Steps.refl _))
  have c7 : Steps p.tables e below (s₁.setTop (entryFrame m #[.ref a, .ref b, .int (Int32.ofNat o), .int (Int32.ofNat len), .null] 6)) (T5.setTop (mkF m 36 #[.val (.ref a), .val (.ref b), .val (.int (Int32.ofNat o)), .val (.int (Int32.ofNat len)), .val .null, .unset] [.int (Int32.ofNat len), .int (Int32.ofNat o), .ref b])) := c6.trans (by
    refine XS.ifNo X5.here hexec rfl (hb hbytes d30) rfl (i0_eq_f hz) ?_
    refine XS.aloadN X5.here hexec rfl (hb hbytes d33) rfl rfl ?_
    refine XS.iloadN X5.here hexec rfl (hb hbytes d34) rfl ?_
    refine XS.iloadN X5.here hexec rfl (hb hbytes d35) rfl ?_
    exact Steps.refl _)
  obtain ⟨v8, T8, X8, E8, g8⟩ := X5.callS hexec (Cmp3.law l b A o len) hown (wks W (staticW "java/lang/String" 177 Cmp3.yN)) (wk W Cmp3.tab) (W := 0) (Nat.le_of_ble_eq_true rfl) (Nat.le_of_ble_eq_true rfl) (Nat.le_refl _) (by show 0 + len ≤ len; omega) (g := (mkF m 36 #[.val (.ref a), .val (.ref b), .val (.int (Int32.ofNat o)), .val (.int (Int32.ofNat len)), .val .null, .unset] [.int (Int32.ofNat len), .int (Int32.ofNat o), .ref b])) rfl (by rw [hml]; rfl) c7 (argsL := [.ref b, .int (Int32.ofNat o), .int (Int32.ofNat len)]) (rest := []) rfl rfl (by show 2 * 0 + 0 ≤ _; decide) (hb hbytes d36) (⟨rfl, hA.mv X5.warmed.alike hh5, l1, l2, hp⟩)
  obtain ⟨e8, z8⟩ := E8
  obtain ⟨rfl, N, n1, n2, n3, n4, n5, n6⟩ := NewArr.mv _ T5 s _ _ hh5.symm (Vm.Alike.refl _) rfl e8
  rw [hh5] at z8
  have hB1 := hB.keep X8.warmed.alike (n6 _ _ hB.1)
  have hne : s.heap.size ≠ a := (Nat.ne_of_lt (Array.getElem?_eq_some_iff.mp hB.1).1).symm
  have c9 : Steps p.tables e below (s₁.setTop (entryFrame m #[.ref a, .ref b, .int (Int32.ofNat o), .int (Int32.ofNat len), .null] 6)) (T8.setTop (mkF m 39 #[.val (.ref a), .val (.ref b), .val (.int (Int32.ofNat o)), .val (.int (Int32.ofNat len)), .val .null, .unset] [.ref s.heap.size])) := g8
  have c10 : Steps p.tables e below (s₁.setTop (entryFrame m #[.ref a, .ref b, .int (Int32.ofNat o), .int (Int32.ofNat len), .null] 6)) (T8.setTop (mkF m 45 #[.val (.ref a), .val (.ref b), .val (.int (Int32.ofNat o)), .val (.int (Int32.ofNat len)), .val .null, .val (.ref s.heap.size)] [.int (Int32.ofNat N.slots.size), .ref s.heap.size, .ref a])) := by
    have hc : Steps p.tables e below (s₁.setTop (entryFrame m #[.ref a, .ref b, .int (Int32.ofNat o), .int (Int32.ofNat len), .null] 6)) (T8.setTop (mkF m 45 #[.val (.ref a), .val (.ref b), .val (.int (Int32.ofNat o)), .val (.int (Int32.ofNat len)), .val .null, .val (.ref s.heap.size)] [.int (Int32.ofNat len), .ref s.heap.size, .ref a])) := c9.trans (by
      refine XS.astore X8.here hexec rfl (hb hbytes d39) rfl rfl rfl ?_
      refine XS.aloadN X8.here hexec rfl (hb hbytes d41) rfl rfl ?_
      refine XS.aload X8.here hexec rfl (hb hbytes d42) rfl rfl ?_
      refine XS.iloadN X8.here hexec rfl (hb hbytes d44) rfl ?_
      exact Steps.refl _)
    rw [n4]; exact hc
  obtain ⟨v11, T11, X11, E11, g11⟩ := X8.callS hexec (CodL.law l s.heap.size N) hown (wks W (staticW "java/lang/String" 47 CodL.yN)) (wk W CodL.tab) (W := 1) (Nat.le_of_ble_eq_true rfl) (Nat.le_of_ble_eq_true rfl) (Nat.le_refl _) (by show 0 + len + 0 ≤ len; omega) (g := (mkF m 45 #[.val (.ref a), .val (.ref b), .val (.int (Int32.ofNat o)), .val (.int (Int32.ofNat len)), .val .null, .val (.ref s.heap.size)] [.int (Int32.ofNat N.slots.size), .ref s.heap.size, .ref a])) rfl (by rw [hml]; rfl) c10 (argsL := [.ref s.heap.size, .int (Int32.ofNat N.slots.size)]) (rest := [.ref a]) rfl rfl (by show 2 * 0 + (1 + 0) ≤ _; decide) (hb hbytes d45) (⟨rfl, n1⟩)
  obtain ⟨rfl, q11⟩ := E11
  have hB11 := hB1.mv (X8.warmed.alike.symm.trans X11.warmed.alike) q11
  have c12 : Steps p.tables e below (s₁.setTop (entryFrame m #[.ref a, .ref b, .int (Int32.ofNat o), .int (Int32.ofNat len), .null] 6)) (T11.setTop (mkF m 48 #[.val (.ref a), .val (.ref b), .val (.int (Int32.ofNat o)), .val (.int (Int32.ofNat len)), .val .null, .val (.ref s.heap.size)] [.int 0, .ref a])) := g11
  obtain ⟨T13, X13, p13, bl13, sl13, st13⟩ := X11.finit hexec hown (wk W (.fieldLink "java/lang/String" 15 "java/lang/String" "coder" "B")) (Or.inr ⟨_, (wk W (.laysFinal "java/lang/String" "java/lang/String" "coder" "B"))⟩) (Or.inl ⟨rfl, hnm⟩) f2 (Or.inl rfl) hB11 (t := .byte) (by decide +kernel) rfl (g := (mkF m 48 #[.val (.ref a), .val (.ref b), .val (.int (Int32.ofNat o)), .val (.int (Int32.ofNat len)), .val .null, .val (.ref s.heap.size)] [.int 0, .ref a])) rfl (rest := []) rfl (hb hbytes d48)
  have c14 : Steps p.tables e below (s₁.setTop (entryFrame m #[.ref a, .ref b, .int (Int32.ofNat o), .int (Int32.ofNat len), .null] 6)) (T13.setTop (mkF m 54 #[.val (.ref a), .val (.ref b), .val (.int (Int32.ofNat o)), .val (.int (Int32.ofNat len)), .val .null, .val (.ref s.heap.size)] [.ref s.heap.size, .ref a])) := (c12.trans (st13 _ (Steps.refl _))).trans (by
    refine XS.aloadN X13.here hexec rfl (hb hbytes d51) rfl rfl ?_
    refine XS.aload X13.here hexec rfl (hb hbytes d52) rfl rfl ?_
    exact Steps.refl _)
  obtain ⟨T15, X15, p15, bl15, sl15, st15⟩ := X13.finit hexec hown (wk W (.fieldLink "java/lang/String" 9 "java/lang/String" "value" "[B")) (Or.inr ⟨_, (wk W (.laysFinal "java/lang/String" "java/lang/String" "value" "[B"))⟩) (Or.inl ⟨rfl, hnm⟩) f1 (Or.inl rfl) bl13 (t := (.array .byte)) (by decide +kernel) rfl (g := (mkF m 54 #[.val (.ref a), .val (.ref b), .val (.int (Int32.ofNat o)), .val (.int (Int32.ofNat len)), .val .null, .val (.ref s.heap.size)] [.ref s.heap.size, .ref a])) rfl (rest := []) rfl (hb hbytes d54)
  have c16 : Steps p.tables e below (s₁.setTop (entryFrame m #[.ref a, .ref b, .int (Int32.ofNat o), .int (Int32.ofNat len), .null] 6)) (T15.setTop (mkF m 57 #[.val (.ref a), .val (.ref b), .val (.int (Int32.ofNat o)), .val (.int (Int32.ofNat len)), .val .null, .val (.ref s.heap.size)] [])) := c14.trans (st15 _ (Steps.refl _))
  have ap := apart (Or.inr ⟨_, (wk W (.laysFinal "java/lang/String" "java/lang/String" "value" "[B"))⟩) (Or.inr ⟨_, (wk W (.laysFinal "java/lang/String" "java/lang/String" "coder" "B"))⟩) f1 f2 (t₁ := .array .byte) (t₂ := .byte) (by decide +kernel) (by decide +kernel) (by decide)
  have al := X8.warmed.alike.symm.trans X15.warmed.alike
  have n7 : T11.heap[s.heap.size]? = some N := by rw [q11]; exact n1.1
  exact ⟨T15, none, _, _, _, X15, by simp, rfl, by omega, (fun _ => rfl), ⟨rfl, _, N, bl15, ((Same.refl D _).set _ (by simp)).set _ (by simp), sl15, (Cell.slots_setSlot_ne _ ap).trans sl13, n1.keep al (p15.other hne (p13.other hne n7)), n2, by rw [al.findClass]; exact n3, n4, n5, fun y c h1 h2 => p15.other h1 (p13.other h1 (by rw [q11]; exact n6 y c h2)), by rw [p15.2.2, p13.2.2, q11]; exact z8⟩, fun fs hl => c16.trans (X15.returnOut hexec hret (hb hbytes d57) hl)⟩
end New4
namespace New1
def yN : MethodName := ⟨"java/lang/String", "<init>", "([C)V"⟩
abbrev yB : ByteArray := jdk_42_method_3_code
theorem d0 : decode yB 0 = .ok (.aload_n 0, 1) := by decide +kernel
theorem d1 : decode yB 1 = .ok (.aload_n 1, 1) := by decide +kernel
theorem d2 : decode yB 2 = .ok (.iconst 0, 1) := by decide +kernel
theorem d3 : decode yB 3 = .ok (.aload_n 1, 1) := by decide +kernel
theorem d4 : decode yB 4 = .ok (.arraylength, 1) := by decide +kernel
theorem d5 : decode yB 5 = .ok (.aconst_null, 1) := by decide +kernel
theorem d6 : decode yB 6 = .ok (.invokespecial 27, 3) := by decide +kernel
theorem d9 : decode yB 9 = .ok (.return_, 1) := by decide +kernel
def site : List Cond := [New4.tab] ++ initW "java/lang/String" 27 New4.yN
def tab : Cond := tabOf yN yB 2 none site
def P (a : Addr) (D : Cell) (fV fC : Field) (b : Addr) (A : Cell) (z : Int32) (args : Array Value) (s : State) : Prop := args = #[.ref a, .ref b] ∧ Blank "java/lang/String" a D s ∧ Found "java/lang/String" "value" "[B" fV s ∧ Found "java/lang/String" "coder" "B" fC s ∧ Ch b A s ∧ StaticIs s "java/lang/String" "COMPACT_STRINGS" "Z" (.int z) ∧ ¬ z = 0 ∧ 0 < A.slots.size ∧ A.slots.size ≤ 536870912 ∧ ∀ i, i < A.slots.size → ¬ 255 < cv A i
def E (a : Addr) (D : Cell) (fV fC : Field) (A : Cell) (r : Option Value) (s u : State) : Prop := Got a D fV fC A 0 A.slots.size r s u
/-- new String(chars), not empty, no char above 255: a Latin-1 String of their low bytes -/
theorem law (l : Launch) (a : Addr) (D : Cell) (fV fC : Field) (b : Addr) (A : Cell) (z : Int32) : Law l yN 2 1 3 52 yB 2 none site (P a D fV fC b A z) (E a D fV fC A) [⟨a, fC.slot⟩, ⟨a, fV.slot⟩] 1 A.slots.size := by
  refine Law.of_walk (plainFor_of_name (by decide +kernel)) (by decide +kernel) (by decide +kernel) (by decide) (fun _ _ h => by rw [h.1]; rfl) (fun _ U U' hal hh h => ⟨h.1, h.2.1.mv hal hh, h.2.2.1.al hal, h.2.2.2.1.al hal, h.2.2.2.2.1.mv hal hh, h.2.2.2.2.2.1.there hal hh, h.2.2.2.2.2.2⟩) (fun r U U' V V' h1 hal h2 h => Got.mv r U U' V V' h1 hal h2 h) ?_
  intro p e s m args below meth c s₁ X0 hexec hbytes hml hret hlk hnm hown hh0 W hP
  obtain ⟨rfl, hB, f1, f2, hA, s1, hz, l0, l2, hp⟩ := hP
  have c1 : Steps p.tables e below (s₁.setTop (entryFrame m #[.ref a, .ref b] 2)) (s₁.setTop (mkF m 0 #[.val (.ref a), .val (.ref b)] [])) := entry rfl
  have c2 : Steps p.tables e below (s₁.setTop (entryFrame m #[.ref a, .ref b] 2)) (s₁.setTop (mkF m 6 #[.val (.ref a), .val (.ref b)] [.null, .int (Int32.ofNat A.slots.size), .int 0, .ref b, .ref a])) := c1.trans (by
    refine XS.aloadN X0.here hexec rfl (hb hbytes d0) rfl rfl ?_
    refine XS.aloadN X0.here hexec rfl (hb hbytes d1) rfl rfl ?_
    refine iconstV X0.here hexec rfl 0 (hb hbytes d2) (by decide) ?_
    refine XS.aloadN X0.here hexec rfl (hb hbytes d3) rfl rfl ?_
    refine X0.alen hexec (hA.1.mv X0.warmed.alike hh0) rfl rfl (hb hbytes d4) ?_
    refine XS.aconstNull X0.here hexec rfl (hb hbytes d5) ?_
    exact Steps.refl _)
  obtain ⟨v3, T3, X3, E3, g3⟩ := X0.callN hexec (New4.law l a D fV fC b A z 0 A.slots.size) rfl hown (wks W (initW "java/lang/String" 27 New4.yN)) (W New4.tab (by simp only [site, List.mem_cons, List.mem_append, true_or, or_true])) (W := 0) (Nat.le_of_ble_eq_true rfl) (Nat.le_of_ble_eq_true rfl) (Nat.le_refl _) (by show 0 + A.slots.size ≤ A.slots.size; omega) (g := (mkF m 6 #[.val (.ref a), .val (.ref b)] [.null, .int (Int32.ofNat A.slots.size), .int (Int32.ofNat 0), .ref b, .ref a])) rfl (by rw [hml]; rfl) c2 (argsL := [.ref b, .int (Int32.ofNat 0), .int (Int32.ofNat A.slots.size), .null]) (rest := []) rfl rfl (by show 2 * 0 + 0 ≤ _; decide) (hb hbytes d6) (⟨rfl, hB.mv X0.warmed.alike hh0, f1.al X0.warmed.alike, f2.al X0.warmed.alike, hA.mv X0.warmed.alike hh0, s1.there X0.warmed.alike hh0, hz, l0, by omega, l2, fun i hi => by rw [Nat.zero_add]; exact hp i hi⟩)
  have e0 := Got.mv _ s₁ s _ _ hh0.symm (Vm.Alike.refl _) rfl E3
  obtain rfl := e0.1
  have c4 : Steps p.tables e below (s₁.setTop (entryFrame m #[.ref a, .ref b] 2)) (T3.setTop (mkF m 9 #[.val (.ref a), .val (.ref b)] [])) := g3
  exact ⟨T3, none, _, _, _, X3, by simp, rfl, by omega, (fun _ => rfl), e0, fun fs hl => c4.trans (X3.returnOut hexec hret (hb hbytes d9) hl)⟩
theorem pays {l : Launch} {R : Room} {p : Program} {e : Env} {below : List Frame} {s : State} {sargs : Array Value} {len W : Nat} (a : Addr) (D : Cell) (fV fC : Field) (b : Addr) (A : Cell) (z : Int32) (htab : tab.before sargs s = true) (hfr : 4 ≤ R.frames) (hlo : W + 65 ≤ R.locals) :
    Back l R p e below s sargs yN len W (fun A₁ a₁ => A₁.cells + 1 ≤ R.cells ∧ A₁.slots + A.slots.size ≤ R.slots ∧ P a D fV fC b A z a₁ A₁.U) (fun A₁ _ v₁ B₁ => E a D fV fC A v₁ A₁.U B₁.U ∧ B₁.locs = A₁.locs ++ [⟨a, fC.slot⟩, ⟨a, fV.slot⟩] ∧ B₁.cells = A₁.cells + 1 ∧ B₁.slots = A₁.slots + A.slots.size) :=
  (law l a D fV fC b A z).pays htab hfr (by omega)
end New1
end StrChars
namespace StrChars.Road
open Jvm Sem ClassFile Op Lib Jvm.Stand Jvm.Free Jvm.Free.XT
open Jvm.Lib.Cold (StaticIs)
abbrev ST : String := "java/lang/String"
/-- every table word that New1's law asks, flat -/
abbrev words : List Jvm.Cond := [.code New1.yN New1.yB 2 none, .initialized ST, .methodLink ST 27 New4.yN, .instanceMethod New4.yN,
  .code New4.yN New4.yB 6 none, .fieldLink ST 38 ST "COMPACT_STRINGS" "Z", .laysFinal ST ST "value" "[B", .fieldLink ST 9 ST "value" "[B", .laysFinal ST ST "coder" "B", .fieldLink ST 15 ST "coder" "B",
  .methodLink ST 1 Lib.objectInit, .instanceMethod Lib.objectInit, .code Lib.objectInit ⟨#[0xb1]⟩ 1 none, .methodLink ST 177 Cmp3.yN, .static Cmp3.yN, .methodLink ST 47 CodL.yN, .static CodL.yN,
  .code Cmp3.yN Cmp3.yB 6 (some (.array .byte)), .initialized U16, .arrayClass .byte, .methodLink U16 115 Cmp5.yN, .static Cmp5.yN, .code Cmp5.yN Cmp5.yB 7 (some .int), .code CodL.yN CodL.yB 2 (some .byte)]
theorem tab_of {a : Array Value} {s : State} (h : ∀ w ∈ words, w.before a s = true) : New1.tab.before a s = true := by
  have h5 : Cmp5.tab.before a s = true := unparts (wk h (.code Cmp5.yN Cmp5.yB 7 (some .int))) (wks h (.initialized Cmp5.yN.cls :: Cmp5.site))
  have hc : CodL.tab.before a s = true := unparts (wk h (.code CodL.yN CodL.yB 2 (some .byte))) (wks h (.initialized CodL.yN.cls :: CodL.site))
  have q5 : ∀ w ∈ Cmp5.tab :: words, w.before a s = true := fun w hw => (List.mem_cons.mp hw).elim (fun e => e ▸ h5) (h w)
  have h3 : Cmp3.tab.before a s = true := unparts (wk q5 (.code Cmp3.yN Cmp3.yB 6 (some (.array .byte)))) (wks q5 (.initialized Cmp3.yN.cls :: Cmp3.site))
  have q3 : ∀ w ∈ Cmp3.tab :: CodL.tab :: words, w.before a s = true := fun w hw => (List.mem_cons.mp hw).elim (fun e => e ▸ h3) fun hw => (List.mem_cons.mp hw).elim (fun e => e ▸ hc) (h w)
  have h4 : New4.tab.before a s = true := unparts (wk q3 (.code New4.yN New4.yB 6 none)) (wks q3 (.initialized New4.yN.cls :: New4.site))
  have q4 : ∀ w ∈ New4.tab :: words, w.before a s = true := fun w hw => (List.mem_cons.mp hw).elim (fun e => e ▸ h4) (h w)
  exact unparts (wk q4 (.code New1.yN New1.yB 2 none)) (wks q4 (.initialized New1.yN.cls :: New1.site))
/-- the words ride from the start Z to the walk's own state -/
theorem moved {Z s : State} {a0 args : Array Value} (hZ : Z.Warmed39 s.vm) (hw : ∀ d ∈ words, d.before a0 Z = true) : ∀ d ∈ words, d.before args s = true := fun d hd => by
  have q := hw d hd
  have t : ∀ d ∈ words, d = .arrayClass .byte ∨ (d.onTables && d.keepsFace) = true := by decide +kernel
  rcases t d hd with rfl | t
  · exact RoadKit.mvA hZ q
  · exact RoadKit.mv hZ q t
/-- WHAT COMES BACK, over the tables of the start Z: h the heap at the call, h' behind it -/
def Q (Z : State) (x : Addr) (A : Cell) (h : Heap) (v : Option Value) (h' : Heap) (L : List Loc) : Prop := v = none ∧ (∀ y ∈ L, y.base = x) ∧ RoadKit.Keep h h' [x] ∧ h'.size = h.size + 1 ∧ RoadKit.Exa Z h' x ST ∧ RoadKit.Fld Z h' x ST "value" "[B" (.ref h.size) ∧ RoadKit.Fld Z h' x ST "coder" "B" (.int 0) ∧
  (∃ V : Cell, RoadKit.Arr Z h' h.size V .byte ∧ V.vm = .none ∧ Z.vm.findClass "[B" = some V.cls ∧ V.slots.size = A.slots.size ∧ ∀ j, j < A.slots.size → V.slots[j]? = some (.int (lo8 (cv A j)))) ∧
  ∀ (O n d : String) (w : Value), RoadKit.Fld Z h x O n d w → RoadKit.slotOf Z O n d ≠ RoadKit.slotOf Z ST "value" "[B" → RoadKit.slotOf Z O n d ≠ RoadKit.slotOf Z ST "coder" "B" → RoadKit.Fld Z h' x O n d w
/-- **new String(chars) AT A CALL, IN THE ROAD'S FORM**: for specialBack behind newO: x the fresh String, b the char[] with the cell A -/
theorem back {p : Program} {l : Launch} {e : Env} {R : Room} {s : State} {args : Array Value} {below : List Frame} {len W : Nat} {Z : State} {a0 : Array Value} {h : Heap} (hZ : Z.Warmed39 s.vm) (hw : ∀ d ∈ words, d.before a0 Z = true) {kI : Nat} (wi : (Jvm.Cond.instantiable ST kI).before a0 Z = true)
    {x b : Addr} {A : Cell} {z : Int32} {v0 c0 : Value} (E : RoadKit.Exa Z h x ST) (V : RoadKit.Fld Z h x ST "value" "[B" v0) (C : RoadKit.Fld Z h x ST "coder" "B" c0) (K : RoadKit.Arr Z h b A .char) (hty : Typed .char A) (S : RoadKit.Sta Z h ST "COMPACT_STRINGS" "Z" (.int z)) (hz : ¬ z = 0)
    (l0 : 0 < A.slots.size) (l2 : A.slots.size ≤ 536870912) (hp : ∀ i, i < A.slots.size → ¬ 255 < cv A i) (hfr : 4 ≤ R.frames) (hlo : W + 65 ≤ R.locals) :
    Back l R p e below s args New1.yN len W (fun P a => a = #[.ref x, .ref b] ∧ P.U.heap = h ∧ P.cells + 1 ≤ R.cells ∧ P.slots + A.slots.size ≤ R.slots)
      (fun P _ v B => ∃ L, Q Z x A h v B.U.heap L ∧ B.locs = P.locs ++ L ∧ B.cells = P.cells + 1 ∧ B.slots = P.slots + A.slots.size) := by
  intro m meth c P g ig mk a X hg hsize hdg hW hn hp'
  obtain ⟨rfl, rfl, r1, r2⟩ := hp'
  have al : Z.vm.Alike P.U.vm := hZ.alike.trans X.warmed.alike
  obtain ⟨D, cfV, kV, iV, fV, hD, gV, stV, knV, obV, asV, slV⟩ := id V
  obtain ⟨D', cfC, kC, iC, fC, hD', gC, stC, -, -, asC, slC⟩ := id C
  cases hD.symm.trans hD'
  obtain ⟨D2, kD, e1, e2, e3, e4, e5⟩ := id E
  cases hD.symm.trans e1
  obtain ⟨c2, k2, i1, i2, i3, -⟩ := Cond.instantiable_spec wi
  cases e2.symm.trans i1
  cases e3.symm.trans i2
  obtain ⟨kU, u1, u2⟩ := al.2.2 _ _ e3
  have hB : Blank ST x D P.U := ⟨hD, ⟨knV, fun q hq => by rw [hq] at obV; cases obV⟩, by rw [al.findClass]; exact e2, kU, u1, by rw [u2]; exact i3, by rw [u2]; exact e5 i3⟩
  have F1 : Found ST "value" "[B" fV P.U := ⟨SBG.found_only al ⟨cfV, kV, iV, gV⟩, stV⟩
  have F2 : Found ST "coder" "B" fC P.U := ⟨SBG.found_only al ⟨cfC, kC, iC, gC⟩, stC⟩
  have hA : Ch b A P.U := ⟨⟨K.1, State.isArrayOf_alike al K.2.1, K.2.2, by omega⟩, hty⟩
  have hS : StaticIs P.U ST "COMPACT_STRINGS" "Z" (.int z) := by
    obtain ⟨cfS, iS, kS, fS, st, cS, t1, t2, t3, t4, t5, t6, t7⟩ := S
    exact StaticIs.there (s := { Z with heap := P.U.heap }) ⟨cfS, iS, kS, fS, st, cS, t1, t2, t3, t4, t5, (fun q => by rw [q] at t6; cases t6), t7⟩ al rfl
  obtain ⟨v, B, X', ⟨⟨hv, E', V', q1, q2, q3, q4, q5, q6, q7, q8, q9, q10, q11⟩, hl, hc, hs⟩, st⟩ := New1.pays x D fV fC b A z (tab_of (moved hZ hw)) hfr hlo m meth c P g ig mk _ X hg hsize hdg hW hn ⟨r1, r2, rfl, hB, F1, F2, hA, hS, hz, l0, l2, hp⟩
  have al' : Z.vm.Alike B.U.vm := hZ.alike.trans X'.warmed.alike
  have hsz : E'.slots.size = D.slots.size := by
    obtain ⟨-, -, -, kB, w1, w2, w3⟩ := q1
    obtain ⟨kB', y1, y2⟩ := al'.2.2 _ _ e3
    rw [q2.2.1] at w1
    cases w1.symm.trans y1
    rw [w3, e5 i3, y2]
  refine ⟨v, B, X', ⟨_, ⟨hv, ?_, ⟨by omega, fun y cy hy hn' => q10 y cy (by simpa using hn') hy, fun y cy hy => ?_⟩, q11, ⟨E', _, q1.1, by rw [q2.2.1]; exact e2, by rw [q2.2.1]; exact e3, by rw [q2.1]; exact obV, fun _ => by rw [hsz]; exact e5 i3⟩,
    ⟨E', cfV, kV, iV, fV, q1.1, gV, stV, by rw [q2.1]; exact knV, by rw [q2.1]; exact obV, by rw [q2.2.1]; exact asV, q3⟩, ⟨E', cfC, kC, iC, fC, q1.1, gC, stC, by rw [q2.1]; exact knV, by rw [q2.1]; exact obV, by rw [q2.2.1]; exact asC, q4⟩,
    ⟨V', ⟨q5.1, State.isArrayOf_alike al'.symm q5.2.1, q5.2.2.1⟩, q6, by rw [← al'.findClass]; exact q7, q8, fun j hj => by have := q9 j hj; rwa [Nat.zero_add] at this⟩, fun O n d w F n1 n2 => ?_⟩, hl, hc, hs⟩, st⟩
  · intro y hy
    simp only [List.mem_cons, List.not_mem_nil, or_false] at hy
    rcases hy with rfl | rfl <;> rfl
  · by_cases q : y = x
    · subst q
      cases hD.symm.trans hy
      exact ⟨E', q1.1, q2.2.1, q2.1, hsz⟩
    · exact ⟨cy, q10 y cy q hy, rfl, rfl, rfl⟩
  · obtain ⟨D3, cf, k, i, f, g1, g2, g3, g4, g5, g6, g7⟩ := F
    cases hD.symm.trans g1
    simp only [RoadKit.slotOf, g2, gV, gC, Option.map_some, Option.getD_some] at n1 n2
    exact ⟨E', cf, k, i, f, q1.1, g2, g3, by rw [q2.1]; exact g4, by rw [q2.1]; exact g5, by rw [q2.2.1]; exact g6, by rw [q2.2.2 f.slot (by simp [n1, n2])]; exact g7⟩
end StrChars.Road
namespace StrChars.Road
open Jvm Sem ClassFile Op Lib Jvm.Stand Jvm.Free Jvm.Free.XT
/-- WHAT COMES BACK, the byte[] as a list of values -/
def QA (Z : State) (x : Addr) (zn : Int32) (cs : List Int32) (h : Heap) (v : Option Value) (h' : Heap) (L : List Loc) : Prop := v = none ∧ (∀ y ∈ L, y.base = x) ∧ RoadKit.Keep h h' [x] ∧ h'.size = h.size + 1 ∧ RoadKit.Exa Z h' x ST ∧ RoadKit.Fld Z h' x ST "value" "[B" (.ref h.size) ∧ RoadKit.Fld Z h' x ST "coder" "B" (.int 0) ∧
  (∃ kb, Z.vm.findClass "[B" = some kb ∧ RoadKit.Arv Z h' h.size kb .byte zn (cs.map fun c => .int (lo8 c)) (.int 0)) ∧
  ∀ (O n d : String) (w : Value), RoadKit.Fld Z h x O n d w → RoadKit.slotOf Z O n d ≠ RoadKit.slotOf Z ST "value" "[B" → RoadKit.slotOf Z O n d ≠ RoadKit.slotOf Z ST "coder" "B" → RoadKit.Fld Z h' x O n d w
/-- **new String(chars) AT A CALL, THE ARRAYS AS LISTS**: the char[] at b holds cs, not empty, no char above 255 -/
theorem backArv {p : Program} {l : Launch} {e : Env} {R : Room} {s : State} {args : Array Value} {below : List Frame} {len W : Nat} {Z : State} {a0 : Array Value} {h : Heap} (hZ : Z.Warmed39 s.vm) (hw : ∀ d ∈ words, d.before a0 Z = true) {kI : Nat} (wi : (Jvm.Cond.instantiable ST kI).before a0 Z = true)
    {x b : Addr} {k : ClassId} {zn z : Int32} {cs : List Int32} {dv v0 c0 : Value} (E : RoadKit.Exa Z h x ST) (V : RoadKit.Fld Z h x ST "value" "[B" v0) (C : RoadKit.Fld Z h x ST "coder" "B" c0) (K : RoadKit.Arv Z h b k .char zn (cs.map Value.int) dv) (S : RoadKit.Sta Z h ST "COMPACT_STRINGS" "Z" (.int z)) (hz : ¬ z = 0)
    (hlen : zn.toNatClampNeg = cs.length) (h0 : 0 < cs.length) (hbig : cs.length ≤ 536870912) (hall : ∀ c ∈ cs, ¬ 255 < c) (hfr : 4 ≤ R.frames) (hlo : W + 65 ≤ R.locals) :
    Back l R p e below s args New1.yN len W (fun P a => a = #[.ref x, .ref b] ∧ P.U.heap = h ∧ P.cells + 1 ≤ R.cells ∧ P.slots + cs.length ≤ R.slots)
      (fun P _ v B => ∃ L, QA Z x zn cs h v B.U.heap L ∧ B.locs = P.locs ++ L ∧ B.cells = P.cells + 1 ∧ B.slots = P.slots + cs.length) := by
  obtain ⟨A, K1, K2, K3, K4, K5, K6⟩ := K
  have e : A.slots.size = cs.length := K3.trans hlen
  have hat : ∀ (i : Nat) (hi : i < cs.length), A.slots[i]? = some (.int cs[i]) := fun i hi => by rw [K5 i (by omega)]; simp [List.getD_eq_getElem?_getD, hi]
  have hcv : ∀ (i : Nat) (hi : i < cs.length), cv A i = cs[i] := fun i hi => by unfold cv; rw [hat i hi]
  have hty : Typed .char A := fun i v hv => by
    have hi : i < A.slots.size := (Array.getElem?_eq_some_iff.mp hv).1
    have q := K5 i hi
    rw [hv] at q
    rw [Option.some.inj q]
    exact K6 i hi
  refine Back.mono (back hZ hw wi E V C K1 hty S hz (by omega) (by omega) (fun i hi => by rw [hcv i (by omega)]; exact hall _ (List.getElem_mem _)) hfr hlo) (fun P a hp => ⟨hp.1, hp.2.1, hp.2.2.1, by rw [e]; exact hp.2.2.2⟩) (fun P a v B hp hq => ?_)
  obtain ⟨L, ⟨q1, q2, q3, q4, q5, q6, q7, ⟨V', v1, v2, v3, v4, v5⟩, q9⟩, hl, hc, hs⟩ := hq
  refine ⟨L, ⟨q1, q2, q3, q4, q5, q6, q7, ⟨V'.cls, v3, V', v1, rfl, by rw [v4, e, hlen], K4, fun i hi => ?_, fun i hi => ?_⟩, q9⟩, hl, hc, by rw [hs, e]⟩
  · have hi' : i < cs.length := by omega
    rw [v5 i (by omega), hcv i hi']; simp [List.getD_eq_getElem?_getD, hi']
  · have hi' : i < cs.length := by omega
    simp only [List.getD_eq_getElem?_getD, List.getElem?_map, List.getElem?_eq_getElem hi', Option.map_some, Option.getD_some]
    exact fits_lo8 _
end StrChars.Road
namespace StrChars.Road
open Jvm Sem ClassFile Op Lib Jvm.Stand Jvm.Free Jvm.Free.XT
/-- WHAT COMES BACK, in the writer's own shape -/
def QV (Z : State) (x : Addr) (N : Int32) (bs : List Int32) (h : Heap) (n0 : Nat) (v : Option Value) (h' : Heap) (L : List Loc) : Prop := v = none ∧ RoadKit.Fr n0 L ∧ RoadKit.Keep h h' [x] ∧ RoadKit.Exa Z h' x ST ∧ RoadKit.Fld Z h' x ST "coder" "B" (.int 0) ∧
  ∃ (t : Addr) (kb : ClassId), n0 ≤ t ∧ h.size ≤ t ∧ ¬ t = x ∧ RoadKit.Fld Z h' x ST "value" "[B" (.ref t) ∧ RoadKit.Arv Z h' t kb .byte N (bs.map Value.int) (.int 0)
/-- **new String(chars) AT A CALL, FOR THE WRITER**: a char[] of n known ints, each 0 to 255 -/
theorem backV {p : Program} {l : Launch} {e : Env} {R : Room} {s : State} {args : Array Value} {below : List Frame} {len W : Nat} {Z : State} {a0 : Array Value} {h : Heap} (hZ : Z.Warmed39 s.vm) (hw : ∀ d ∈ words, d.before a0 Z = true) {kI : Nat} (wi : (Jvm.Cond.instantiable ST kI).before a0 Z = true)
    {x b : Addr} {kC : ClassId} {cs bs : List Int32} {d v0 c0 : Value} {z N : Int32} {n n0 : Nat} (hx0 : n0 ≤ x) (hh0 : n0 ≤ h.size) (E : RoadKit.Exa Z h x ST) (V : RoadKit.Fld Z h x ST "value" "[B" v0) (C : RoadKit.Fld Z h x ST "coder" "B" c0) (K : RoadKit.Arv Z h b kC .char N (cs.map Value.int) d) (S : RoadKit.Sta Z h ST "COMPACT_STRINGS" "Z" (.int z)) (hz : ¬ z = 0)
    (hn : cs.length = n) (hN : N = Int32.ofNat n) (l0 : 0 < n) (l2 : n ≤ 4000) (hp : ∀ c ∈ cs, ¬ c < 0 ∧ ¬ (255 : Int32) < c) (hb : bs = cs.map (fun c => c.toInt8.toInt32)) (hfr : 4 ≤ R.frames) (hlo : W + 65 ≤ R.locals) :
    Back l R p e below s args (⟨"java/lang/String", "<init>", "([C)V"⟩ : MethodName) len W (fun P a => a = #[.ref x, .ref b] ∧ P.U.heap = h ∧ P.cells + 1 ≤ R.cells ∧ P.slots + n ≤ R.slots)
      (fun P _ v B => ∃ L, QV Z x N bs h n0 v B.U.heap L ∧ B.locs = P.locs ++ L ∧ B.cells = P.cells + 1 ∧ B.slots = P.slots + n) := by
  subst hn hN hb
  refine Back.mono (backArv hZ hw wi E V C K S hz (n32 (by omega)) l0 (by omega) (fun c hc => (hp c hc).2) hfr hlo) (fun P a hp => hp) (fun P a v B hp hq => ?_)
  obtain ⟨L, ⟨q1, q2, q3, q4, q5, q6, q7, ⟨kb, v1, v2⟩, q9⟩, hl, hc, hs⟩ := hq
  exact ⟨L, ⟨q1, fun y hy => by rw [q2 y hy]; exact hx0, q3, q5, q7, h.size, kb, hh0, Nat.le_refl _, Nat.ne_of_gt E.lt, q6, by rw [List.map_map]; exact v2⟩, hl, hc, hs⟩
end StrChars.Road
end Jvm.Pilot.@@N@@
namespace Jvm.Own
open Sem ClassFile Op Lib Jvm.Stand Jvm.Free Jvm.LawKit Jvm.RoadKit
/-- from the frame g, standing in T, the run ends in what P says -/
def Goes (p : Program) (e : Env) (below : List Frame) (P : Outcome → State → Prop) (T : State) (g : JFrame) : Prop :=
  ∃ s₂ o, Steps p.tables e below (T.setTop g) s₂ ∧ s₂.status = .running ∧ Ended s₂ below o ∧ P o s₂
/-- what a body leaves -/
abbrev Leaves (s : State) (Q : Option Value → Heap → List Loc → Prop) (C N : Nat) (o : Outcome) (U : State) : Prop := ∃ v L, o = .returned v ∧ Q v U.heap L ∧ FrameEnd s o U L C N
/-- a body's contract, asked at the arguments 'as' and the heap h0 -/
abbrev Pays (l : Launch) (Z : State) (y : MethodName) (bytes : ByteArray) (maxL : Nat) (ret : Option FieldType) (ws : List Jvm.Cond) (rm : Room) (as : Array Value) (h0 : Heap) (Q : Option Value → Heap → List Loc → Prop) : Prop :=
  MetFree l y (head1 (Jvm.Cond.code y bytes maxL ret :: ws) rm) (fun a U => a = as ∧ Z.Warmed39 U.vm ∧ U.heap = h0) (fun _ _ _ _ _ => True) (fun _ U o U' => ∃ v L, o = .returned v ∧ Q v U'.heap L ∧ FrameEnd U o U' L rm.cells rm.slots)
section Steps
variable {p : Program} {l : Launch} {e : Env} {R : Room} {s : State} {m : MethodId} {args : Array Value} {below : List Frame} {meth : Method} {c : Code} {T T' : State} {locs : List Loc} {cells slots : Nat} {Z : State} {a0 : Array Value} {h : Heap} {P : Outcome → State → Prop} {g g' : JFrame}
theorem Goes.on (st : ∀ t, Steps p.tables e below (T'.setTop g') t → Steps p.tables e below (T.setTop g) t) (k : Goes p e below P T' g') : Goes p e below P T g := by
  obtain ⟨s₂, o, h1, h2⟩ := k
  exact ⟨s₂, o, st _ h1, h2⟩
theorem Goes.joinB {fr : Int32 → JFrame} (k : ∀ z, (z = 0 ∨ z = 1) → Goes p e below P T' (fr z)) (u : (∀ z, (z = 0 ∨ z = 1) → Goes p e below P T' (fr z)) → Goes p e below P T g) : Goes p e below P T g := u k
theorem Goes.joinI {fr : Int32 → JFrame} (k : ∀ z, Goes p e below P T' (fr z)) (u : (∀ z, Goes p e below P T' (fr z)) → Goes p e below P T g) : Goes p e below P T g := u k
theorem Goes.joinJ {fr : Int64 → JFrame} (k : ∀ z, Goes p e below P T' (fr z)) (u : (∀ z, Goes p e below P T' (fr z)) → Goes p e below P T g) : Goes p e below P T g := u k
theorem Goes.joinR {fr : Addr → JFrame} (k : ∀ z, Goes p e below P T' (fr z)) (u : (∀ z, Goes p e below P T' (fr z)) → Goes p e below P T g) : Goes p e below P T g := u k
theorem Goes.joinT (X : Stand p l e R s m args below meth c T locs cells slots) {fr : Addr → JFrame} (k : ∀ z T', Stand p l e R s m args below meth c T' locs cells slots → T'.heap = h → Goes p e below P T' (fr z)) (u : (∀ z T', Stand p l e R s m args below meth c T' locs cells slots → T'.heap = h → Goes p e below P T' (fr z)) → Goes p e below P T g) : Goes p e below P T g := u k
theorem Goes.out {Q : Option Value → Heap → List Loc → Prop} {C N : Nat} (X : Stand p l e R s m args below meth c T locs cells slots) {v : Option Value} (hv : meth.sig.returnType = none → v = none) (hlk : meth.locks = false) (hc : cells ≤ C) (hs : slots ≤ N) (hq : Q v T.heap locs)
    (st : ∀ fs, (∀ (f : JFrame) (acts : List Action), f.method = m → f.locked = none → f.entered = [] → (doReturn e (T.setTop f) acts v).1 = T.setFrames fs) → Steps p.tables e below (T.setTop g) (T.setFrames fs)) : Goes p e below (Leaves s Q C N) T g := by
  obtain ⟨fs, hr, hrun, hended, hW, hsame⟩ := X.leave (v := v) hv hlk
  exact ⟨_, _, st fs hr, hrun, hended, v, locs, rfl, hq, ⟨_, rfl⟩, hW, hsame.mono hc hs⟩
theorem Goes.retV {Q : Option Value → Heap → List Loc → Prop} {C N : Nat} (X : Stand p l e R s m args below meth c T locs cells slots) (hx : p.tables.exec = Jvm.exec) (hlk : meth.locks = false) (hret : meth.sig.returnType = none) {pc : Nat} {Ls : Array Slot} (hd : decode c.code pc = .ok (.return_, 1)) (hc : cells ≤ C) (hs : slots ≤ N) (hq : Q none T.heap locs) :
    Goes p e below (Leaves s Q C N) T (mkF m pc Ls []) :=
  Goes.out X (fun _ => rfl) hlk hc hs hq fun _ hr => X.returnOut hx hret hd hr
theorem Goes.retW {Q : Option Value → Heap → List Loc → Prop} {C N : Nat} (X : Stand p l e R s m args below meth c T locs cells slots) (hx : p.tables.exec = Jvm.exec) (hlk : meth.locks = false) {t : FieldType} {i : Instr} {w : Value} (hret : meth.sig.returnType = some t) {pc : Nat} {Ls : Array Slot} {rest : List Value} (hn : narrow t w = w)
    (hi : (i = .ireturn ∧ (t = .int ∨ t = .boolean ∨ t = .byte ∨ t = .char ∨ t = .short) ∧ ∃ z, w = .int z) ∨ (i = .lreturn ∧ t = .long ∧ ∃ z, w = .long z) ∨ (i = .dreturn ∧ t = .double ∧ ∃ z, w = .double z) ∨ (i = .freturn ∧ t = .float ∧ ∃ z, w = .float z) ∨ (i = .areturn ∧ t.isReference = true ∧ w.isRef = true))
    (hd : decode c.code pc = .ok (i, 1)) (hc : cells ≤ C) (hs : slots ≤ N) (hq : Q (some w) T.heap locs) : Goes p e below (Leaves s Q C N) T (mkF m pc Ls (w :: rest)) :=
  Goes.out X (fun h => by rw [hret] at h; cases h) hlk hc hs hq fun _ hr => retOut X hx hret hn hi hd hr
theorem Goes.retI {Q : Option Value → Heap → List Loc → Prop} {C N : Nat} (X : Stand p l e R s m args below meth c T locs cells slots) (hx : p.tables.exec = Jvm.exec) (hlk : meth.locks = false) {z : Int32} (hret : meth.sig.returnType = some .int) {pc : Nat} {Ls : Array Slot} {rest : List Value} (hd : decode c.code pc = .ok (.ireturn, 1)) (hc : cells ≤ C) (hs : slots ≤ N) (hq : Q (some (.int z)) T.heap locs) :
    Goes p e below (Leaves s Q C N) T (mkF m pc Ls (.int z :: rest)) := Goes.retW X hx hlk hret rfl (Or.inl ⟨rfl, Or.inl rfl, _, rfl⟩) hd hc hs hq
theorem Goes.retB {Q : Option Value → Heap → List Loc → Prop} {C N : Nat} (X : Stand p l e R s m args below meth c T locs cells slots) (hx : p.tables.exec = Jvm.exec) (hlk : meth.locks = false) {z : Int32} (hret : meth.sig.returnType = some .boolean) {pc : Nat} {Ls : Array Slot} {rest : List Value} (hz : z = 0 ∨ z = 1) (hd : decode c.code pc = .ok (.ireturn, 1)) (hc : cells ≤ C) (hs : slots ≤ N) (hq : Q (some (.int z)) T.heap locs) :
    Goes p e below (Leaves s Q C N) T (mkF m pc Ls (.int z :: rest)) := Goes.retW X hx hlk hret (by rcases hz with rfl | rfl <;> rfl) (Or.inl ⟨rfl, Or.inr (Or.inl rfl), _, rfl⟩) hd hc hs hq
theorem Goes.retC {Q : Option Value → Heap → List Loc → Prop} {C N : Nat} (X : Stand p l e R s m args below meth c T locs cells slots) (hx : p.tables.exec = Jvm.exec) (hlk : meth.locks = false) {z : Int32} (hret : meth.sig.returnType = some .char) {pc : Nat} {Ls : Array Slot} {rest : List Value} (hz : nar .char z = z) (hd : decode c.code pc = .ok (.ireturn, 1)) (hc : cells ≤ C) (hs : slots ≤ N) (hq : Q (some (.int z)) T.heap locs) :
    Goes p e below (Leaves s Q C N) T (mkF m pc Ls (.int z :: rest)) := Goes.retW X hx hlk hret (by show Value.int (nar .char z) = _; rw [hz]) (Or.inl ⟨rfl, Or.inr (Or.inr (Or.inr (Or.inl rfl))), _, rfl⟩) hd hc hs hq
theorem Goes.retY {Q : Option Value → Heap → List Loc → Prop} {C N : Nat} (X : Stand p l e R s m args below meth c T locs cells slots) (hx : p.tables.exec = Jvm.exec) (hlk : meth.locks = false) {z : Int32} (hret : meth.sig.returnType = some .byte) {pc : Nat} {Ls : Array Slot} {rest : List Value} (hz : nar .byte z = z) (hd : decode c.code pc = .ok (.ireturn, 1)) (hc : cells ≤ C) (hs : slots ≤ N) (hq : Q (some (.int z)) T.heap locs) :
    Goes p e below (Leaves s Q C N) T (mkF m pc Ls (.int z :: rest)) := Goes.retW X hx hlk hret (by show Value.int (nar .byte z) = _; rw [hz]) (Or.inl ⟨rfl, Or.inr (Or.inr (Or.inl rfl)), _, rfl⟩) hd hc hs hq
theorem Goes.retJ {Q : Option Value → Heap → List Loc → Prop} {C N : Nat} (X : Stand p l e R s m args below meth c T locs cells slots) (hx : p.tables.exec = Jvm.exec) (hlk : meth.locks = false) {z : Int64} (hret : meth.sig.returnType = some .long) {pc : Nat} {Ls : Array Slot} {rest : List Value} (hd : decode c.code pc = .ok (.lreturn, 1)) (hc : cells ≤ C) (hs : slots ≤ N) (hq : Q (some (.long z)) T.heap locs) :
    Goes p e below (Leaves s Q C N) T (mkF m pc Ls (.long z :: rest)) := Goes.retW X hx hlk hret rfl (Or.inr (Or.inl ⟨rfl, rfl, _, rfl⟩)) hd hc hs hq
theorem Goes.retD {Q : Option Value → Heap → List Loc → Prop} {C N : Nat} (X : Stand p l e R s m args below meth c T locs cells slots) (hx : p.tables.exec = Jvm.exec) (hlk : meth.locks = false) {z : UInt64} (hret : meth.sig.returnType = some .double) {pc : Nat} {Ls : Array Slot} {rest : List Value} (hd : decode c.code pc = .ok (.dreturn, 1)) (hc : cells ≤ C) (hs : slots ≤ N) (hq : Q (some (.double z)) T.heap locs) :
    Goes p e below (Leaves s Q C N) T (mkF m pc Ls (.double z :: rest)) := Goes.retW X hx hlk hret rfl (Or.inr (Or.inr (Or.inl ⟨rfl, rfl, _, rfl⟩))) hd hc hs hq
theorem Goes.retA {Q : Option Value → Heap → List Loc → Prop} {C N : Nat} (X : Stand p l e R s m args below meth c T locs cells slots) (hx : p.tables.exec = Jvm.exec) (hlk : meth.locks = false) {w : Value} {t : FieldType} (hret : meth.sig.returnType = some t) (ht : t.isReference = true) (hw : w.isRef = true) {pc : Nat} {Ls : Array Slot} {rest : List Value} (hd : decode c.code pc = .ok (.areturn, 1)) (hc : cells ≤ C) (hs : slots ≤ N) (hq : Q (some w) T.heap locs) :
    Goes p e below (Leaves s Q C N) T (mkF m pc Ls (w :: rest)) := Goes.retW X hx hlk hret (by cases t <;> first | rfl | cases ht) (Or.inr (Or.inr (Or.inr (Or.inr ⟨rfl, ht, hw⟩)))) hd hc hs hq
/-- a body's contract out of its walk -/
theorem Pays.walk {y : MethodName} {bytes : ByteArray} {maxL : Nat} {ret : Option FieldType} {ws : List Jvm.Cond} {rm : Room} {as : Array Value} {h0 : Heap} {Q : Option Value → Heap → List Loc → Prop} {Ls : Array Slot}
    (hn : plainFor y = true) (hef : ∀ m, entryFrame m as maxL = mkF m 0 Ls [])
    (body : ∀ (p : Program) (e : Env) (s : State) (m : MethodId) (below : List Frame) (meth : Method) (c : Code) (T : State), Stand p l e rm s m as below meth c T [] 0 0 → p.tables.exec = Jvm.exec → c.code = bytes → c.maxLocals = maxL → s.vm.findClass y.cls = some m.cls → meth.name = y.name → Z.Warmed39 s.vm → T.heap = h0 → meth.sig.returnType = ret → meth.locks = false →
      Goes p e below (Leaves s Q rm.cells rm.slots) T (mkF m 0 Ls [])) : Pays l Z y bytes maxL ret ws rm as h0 Q := by
  refine MetFree.of_bodySF hn hisR ?_
  intro p e s m args below meth c s₁ Bd hml0 hP hK
  obtain ⟨rfl, hZ, hh⟩ := hP
  have X0 : Stand p l e rm s m args below meth c s₁ [] 0 0 := Stand.of_body Bd
  obtain ⟨s₂, o, h1, h2⟩ := body p e s m below meth c s₁ X0 Bd.exec Bd.bytes hml0 (findClass_of_methodNamed Bd.named) (name_of_methodNamed Bd.named Bd.method).1 hZ (by rw [← hh, Bd.state]; rfl) Bd.returns Bd.notSynchronized
  exact ⟨s₂, o, castTop (hef m) h1, h2⟩
/-- a static call by its contract -/
theorem Goes.callS (X : Stand p l e R s m args below meth c T locs cells slots) (hx : p.tables.exec = Jvm.exec) (hZ : Z.Warmed39 s.vm) {own : String} {index : Nat} {y : MethodName} {bytes : ByteArray} {maxL : Nat} {ret : Option FieldType} {rm : Room} {as' : Array Value} {Q : Option Value → Heap → List Loc → Prop} (W : Nat)
    (hown : s.vm.findClass own = some m.cls) (w1 : (Jvm.Cond.methodLink own index y).before a0 Z = true) (w2 : (Jvm.Cond.static y).before a0 Z = true) (w3 : (Jvm.Cond.initialized y.cls).before a0 Z = true) (w4 : (Jvm.Cond.code y bytes maxL ret).before a0 Z = true) (hy : y.cls ≠ "java/lang/invoke/MethodHandle" ∧ y.cls ≠ "java/lang/invoke/VarHandle")
    (eT : T.heap = h) (hM : Pays l Z y bytes maxL ret [] rm as' h Q) (hf : rm.frames + 1 ≤ R.frames) (hl : W + (maxL + 11) + rm.locals ≤ R.locals) (hc : cells + rm.cells ≤ R.cells) (hs : slots + rm.slots ≤ R.slots)
    (hg : g.method = m) (hsize : g.locals.size = c.maxLocals) {argsL rest : List Value} (has : argsL.toArray = as') (hlen : ∀ sig, parseMethodDescriptor y.desc = some sig → argsL.length = sig.parameters.length) (hstack : g.stack = argsL.reverse ++ rest) (hW : 2 * g.monitorRoom + (rest.map fun v => v.category).sum ≤ W)
    (hd : decode c.code g.pc = .ok (.invokestatic index, 3))
    (k : ∀ v T' L, Stand p l e R s m args below meth c T' (locs ++ L) (cells + rm.cells) (slots + rm.slots) → Q v T'.heap L → Goes p e below P T' { g with pc := g.pc + 3, stack := v.toList ++ rest }) : Goes p e below P T g := by
  obtain ⟨v, _, ⟨T', L', k', n'⟩, -, X', ⟨Lc, hQ, l', y', z'⟩, st⟩ := Jvm.LawKit.callS X hx hown (mvT hZ w1) (mvT hZ w2) (mvT hZ w3) (mvT hZ w4) hy (backOf (W := W) hM hZ w4 w3 hf hl) hg hsize (argsL := argsL) (rest := rest) hlen hstack hW hd (fun _ _ => ⟨has, eT, hc, hs⟩)
  dsimp only [Pt.U, Pt.locs, Pt.cells, Pt.slots] at X' l' y' z' st hQ
  subst l' y' z'
  exact Goes.on st (k v T' Lc X' hQ)
/-- a constructor by its contract -/
theorem Goes.callC (X : Stand p l e R s m args below meth c T locs cells slots) (hx : p.tables.exec = Jvm.exec) (hZ : Z.Warmed39 s.vm) {own : String} {index : Nat} {y : MethodName} {bytes : ByteArray} {maxL : Nat} {rm : Room} {as' : Array Value} {Q : Option Value → Heap → List Loc → Prop} (W : Nat) (hy1 : y.name = "<init>")
    (hown : s.vm.findClass own = some m.cls) (w1 : (Jvm.Cond.methodLink own index y).before a0 Z = true) (w2 : (Jvm.Cond.instanceMethod y).before a0 Z = true) (w3 : (Jvm.Cond.initialized y.cls).before a0 Z = true) (w4 : (Jvm.Cond.code y bytes maxL none).before a0 Z = true) (hy : y.cls ≠ "java/lang/invoke/MethodHandle" ∧ y.cls ≠ "java/lang/invoke/VarHandle")
    (eT : T.heap = h) (hM : Pays l Z y bytes maxL none [] rm as' h Q) (hf : rm.frames + 1 ≤ R.frames) (hl : W + (maxL + 11) + rm.locals ≤ R.locals) (hc : cells + rm.cells ≤ R.cells) (hs : slots + rm.slots ≤ R.slots)
    (hg : g.method = m) (hsize : g.locals.size = c.maxLocals) {a : Addr} {argsL rest : List Value} (has : (Value.ref a :: argsL).toArray = as') (hlen : ∀ sig, parseMethodDescriptor y.desc = some sig → argsL.length = sig.parameters.length) (hstack : g.stack = argsL.reverse ++ .ref a :: rest) (hW : 2 * g.monitorRoom + (rest.map fun v => v.category).sum ≤ W)
    (hd : decode c.code g.pc = .ok (.invokespecial index, 3))
    (k : ∀ v T' L, Stand p l e R s m args below meth c T' (locs ++ L) (cells + rm.cells) (slots + rm.slots) → Q v T'.heap L → Goes p e below P T' { g with pc := g.pc + 3, stack := v.toList ++ rest }) : Goes p e below P T g := by
  obtain ⟨v, _, ⟨T', L', k', n'⟩, -, X', ⟨Lc, hQ, l', y', z'⟩, st⟩ := X.specialBack hx (y := y) hy1 hown (mvT hZ w1) (mvT hZ w2) (mvT hZ w4) hy (backOf (W := W) hM hZ w4 w3 hf hl) hg hsize (Steps.refl _) (a := a) (argsL := argsL) (rest := rest) hlen hstack hW hd (fun _ _ => ⟨has, eT, hc, hs⟩)
  dsimp only [Pt.U, Pt.locs, Pt.cells, Pt.slots] at X' l' y' z' st hQ
  subst l' y' z'
  exact Goes.on (fun _ q => st.trans q) (k v T' Lc X' hQ)
/-- an instance method by its contract, on an object of the class C -/
theorem Goes.callV (X : Stand p l e R s m args below meth c T locs cells slots) (hx : p.tables.exec = Jvm.exec) (hZ : Z.Warmed39 s.vm) {own C : String} {index : Nat} {y z : MethodName} {bytes : ByteArray} {maxL : Nat} {ret : Option FieldType} {rm : Room} {as' : Array Value} {Q : Option Value → Heap → List Loc → Prop} (W : Nat)
    (hown : s.vm.findClass own = some m.cls) (w1 : (Jvm.Cond.methodLink own index y).before a0 Z = true) (w2 : (Jvm.Cond.declares y).before a0 Z = true) (hnf : NotFace s y) (w5 : (Jvm.Cond.selects C y z).before a0 Z = true) (w6 : (Jvm.Cond.instanceMethod z).before a0 Z = true) (w3 : (Jvm.Cond.initialized z.cls).before a0 Z = true) (w4 : (Jvm.Cond.code z bytes maxL ret).before a0 Z = true) (hy : y.cls ≠ "java/lang/invoke/MethodHandle" ∧ y.cls ≠ "java/lang/invoke/VarHandle")
    (eT : T.heap = h) {a : Addr} (E : Exa Z h a C) (hM : Pays l Z z bytes maxL ret [] rm as' h Q) (hf : rm.frames + 1 ≤ R.frames) (hl : W + (maxL + 11) + rm.locals ≤ R.locals) (hc : cells + rm.cells ≤ R.cells) (hs : slots + rm.slots ≤ R.slots)
    (hg : g.method = m) (hsize : g.locals.size = c.maxLocals) {argsL rest : List Value} (has : (Value.ref a :: argsL).toArray = as') (hlen : ∀ sig, parseMethodDescriptor y.desc = some sig → argsL.length = sig.parameters.length) (hstack : g.stack = argsL.reverse ++ .ref a :: rest) (hW : 2 * g.monitorRoom + (rest.map fun v => v.category).sum ≤ W)
    (hd : decode c.code g.pc = .ok (.invokevirtual index, 3))
    (k : ∀ v T' L, Stand p l e R s m args below meth c T' (locs ++ L) (cells + rm.cells) (slots + rm.slots) → Q v T'.heap L → Goes p e below P T' { g with pc := g.pc + 3, stack := v.toList ++ rest }) : Goes p e below P T g := by
  obtain ⟨cq, kq, qa, qb, qc⟩ := isOf hZ eT E
  obtain ⟨v, _, ⟨T', L', k', n'⟩, -, X', ⟨Lc, hQ, l', y', z'⟩, st⟩ := X.virtualBack hx (y := y) (z := z) hown (mvT hZ w1) (mvT hZ w2) hnf (mvT hZ w5) (mvT hZ w6) hy (backOf (W := W) hM hZ w4 w3 hf hl) qa qc hg hsize (Steps.refl _) (argsL := argsL) (rest := rest) hlen hstack hW hd (fun _ _ => ⟨has, eT, hc, hs⟩)
  dsimp only [Pt.U, Pt.locs, Pt.cells, Pt.slots] at X' l' y' z' st hQ
  subst l' y' z'
  exact Goes.on (fun _ q => st.trans q) (k v T' Lc X' hQ)
/-- what a ready payer (Back) asks and gives -/
abbrev Payer (l : Launch) (R : Room) (p : Program) (e : Env) (below : List Frame) (s : State) (args : Array Value) (y : MethodName) (W : Nat) (as' : Array Value) (h : Heap) (C N : Nat) (Q : Option Value → Heap → List Loc → Prop) : Prop :=
  Back l R p e below s args y 3 W (fun A a => a = as' ∧ A.U.heap = h ∧ A.cells + C ≤ R.cells ∧ A.slots + N ≤ R.slots) (fun A _ v B => ∃ L, Q v B.U.heap L ∧ B.locs = A.locs ++ L ∧ B.cells = A.cells + C ∧ B.slots = A.slots + N)
theorem Goes.callVB (X : Stand p l e R s m args below meth c T locs cells slots) (hx : p.tables.exec = Jvm.exec) (hZ : Z.Warmed39 s.vm) {own C : String} {index : Nat} {y z : MethodName} {as' : Array Value} {Q : Option Value → Heap → List Loc → Prop} {W nc ns : Nat}
    (hown : s.vm.findClass own = some m.cls) (w1 : (Jvm.Cond.methodLink own index y).before a0 Z = true) (w2 : (Jvm.Cond.declares y).before a0 Z = true) (hnf : NotFace s y) (w5 : (Jvm.Cond.selects C y z).before a0 Z = true) (w6 : (Jvm.Cond.instanceMethod z).before a0 Z = true) (hy : y.cls ≠ "java/lang/invoke/MethodHandle" ∧ y.cls ≠ "java/lang/invoke/VarHandle")
    (eT : T.heap = h) {a : Addr} (E : Exa Z h a C) (hK : Payer l R p e below s args z W as' h nc ns Q) (hc : cells + nc ≤ R.cells) (hs : slots + ns ≤ R.slots)
    (hg : g.method = m) (hsize : g.locals.size = c.maxLocals) {argsL rest : List Value} (has : (Value.ref a :: argsL).toArray = as') (hlen : ∀ sig, parseMethodDescriptor y.desc = some sig → argsL.length = sig.parameters.length) (hstack : g.stack = argsL.reverse ++ .ref a :: rest) (hW : 2 * g.monitorRoom + (rest.map fun v => v.category).sum ≤ W)
    (hd : decode c.code g.pc = .ok (.invokevirtual index, 3))
    (k : ∀ v T' L, Stand p l e R s m args below meth c T' (locs ++ L) (cells + nc) (slots + ns) → Q v T'.heap L → Goes p e below P T' { g with pc := g.pc + 3, stack := v.toList ++ rest }) : Goes p e below P T g := by
  obtain ⟨cq, kq, qa, qb, qc⟩ := isOf hZ eT E
  obtain ⟨v, _, ⟨T', L', k', n'⟩, -, X', ⟨Lc, hQ, l', y', z'⟩, st⟩ := X.virtualBack hx (y := y) (z := z) hown (mvT hZ w1) (mvT hZ w2) hnf (mvT hZ w5) (mvT hZ w6) hy hK qa qc hg hsize (Steps.refl _) (argsL := argsL) (rest := rest) hlen hstack hW hd (fun _ _ => ⟨has, eT, hc, hs⟩)
  dsimp only [Pt.U, Pt.locs, Pt.cells, Pt.slots] at X' l' y' z' st hQ
  subst l' y' z'
  exact Goes.on (fun _ q => st.trans q) (k v T' Lc X' hQ)
theorem Goes.callCB (X : Stand p l e R s m args below meth c T locs cells slots) (hx : p.tables.exec = Jvm.exec) (hZ : Z.Warmed39 s.vm) {own : String} {index : Nat} {y : MethodName} {bytes : ByteArray} {maxL : Nat} {as' : Array Value} {Q : Option Value → Heap → List Loc → Prop} {W nc ns : Nat} (hy1 : y.name = "<init>")
    (hown : s.vm.findClass own = some m.cls) (w1 : (Jvm.Cond.methodLink own index y).before a0 Z = true) (w2 : (Jvm.Cond.instanceMethod y).before a0 Z = true) (w4 : (Jvm.Cond.code y bytes maxL none).before a0 Z = true) (hy : y.cls ≠ "java/lang/invoke/MethodHandle" ∧ y.cls ≠ "java/lang/invoke/VarHandle")
    (eT : T.heap = h) (hK : Payer l R p e below s args y W as' h nc ns Q) (hc : cells + nc ≤ R.cells) (hs : slots + ns ≤ R.slots)
    (hg : g.method = m) (hsize : g.locals.size = c.maxLocals) {a : Addr} {argsL rest : List Value} (has : (Value.ref a :: argsL).toArray = as') (hlen : ∀ sig, parseMethodDescriptor y.desc = some sig → argsL.length = sig.parameters.length) (hstack : g.stack = argsL.reverse ++ .ref a :: rest) (hW : 2 * g.monitorRoom + (rest.map fun v => v.category).sum ≤ W)
    (hd : decode c.code g.pc = .ok (.invokespecial index, 3))
    (k : ∀ v T' L, Stand p l e R s m args below meth c T' (locs ++ L) (cells + nc) (slots + ns) → Q v T'.heap L → Goes p e below P T' { g with pc := g.pc + 3, stack := v.toList ++ rest }) : Goes p e below P T g := by
  obtain ⟨v, _, ⟨T', L', k', n'⟩, -, X', ⟨Lc, hQ, l', y', z'⟩, st⟩ := X.specialBack hx (y := y) hy1 hown (mvT hZ w1) (mvT hZ w2) (mvT hZ w4) hy hK hg hsize (Steps.refl _) (a := a) (argsL := argsL) (rest := rest) hlen hstack hW hd (fun _ _ => ⟨has, eT, hc, hs⟩)
  dsimp only [Pt.U, Pt.locs, Pt.cells, Pt.slots] at X' l' y' z' st hQ
  subst l' y' z'
  exact Goes.on (fun _ q => st.trans q) (k v T' Lc X' hQ)
/-- a private instance method (invokevirtual) by its contract -/
theorem Goes.callP (X : Stand p l e R s m args below meth c T locs cells slots) (hx : p.tables.exec = Jvm.exec) (hZ : Z.Warmed39 s.vm) {own C : String} {index ni : Nat} {y : MethodName} {bytes : ByteArray} {maxL : Nat} {ret : Option FieldType} {rm : Room} {as' : Array Value} {Q : Option Value → Heap → List Loc → Prop} (W : Nat)
    (hown : s.vm.findClass own = some m.cls) (w1 : (Jvm.Cond.methodLink own index y).before a0 Z = true) (w6 : (Jvm.Cond.instanceMethod y).before a0 Z = true) (wp : (Jvm.Cond.privateMethod y).before a0 Z = true) (wi : (Jvm.Cond.instantiable y.cls ni).before a0 Z = true) (w3 : (Jvm.Cond.initialized y.cls).before a0 Z = true) (w4 : (Jvm.Cond.code y bytes maxL ret).before a0 Z = true) (hy : y.cls ≠ "java/lang/invoke/MethodHandle" ∧ y.cls ≠ "java/lang/invoke/VarHandle")
    (eT : T.heap = h) {a : Addr} (E : Exa Z h a C) (hM : Pays l Z y bytes maxL ret [] rm as' h Q) (hf : rm.frames + 1 ≤ R.frames) (hl : W + (maxL + 11) + rm.locals ≤ R.locals) (hc : cells + rm.cells ≤ R.cells) (hs : slots + rm.slots ≤ R.slots)
    (hg : g.method = m) (hsize : g.locals.size = c.maxLocals) {argsL rest : List Value} (has : (Value.ref a :: argsL).toArray = as') (hlen : ∀ sig, parseMethodDescriptor y.desc = some sig → argsL.length = sig.parameters.length) (hstack : g.stack = argsL.reverse ++ .ref a :: rest) (hW : 2 * g.monitorRoom + (rest.map fun v => v.category).sum ≤ W)
    (hd : decode c.code g.pc = .ok (.invokevirtual index, 3))
    (k : ∀ v T' L, Stand p l e R s m args below meth c T' (locs ++ L) (cells + rm.cells) (slots + rm.slots) → Q v T'.heap L → Goes p e below P T' { g with pc := g.pc + 3, stack := v.toList ++ rest }) : Goes p e below P T g := by
  obtain ⟨ce, hce, hst⟩ := E.cell
  have hp := Cond.privateMethod_at (args := args) (mvP hZ wp)
  obtain ⟨ci, ki, i1, i2, -, i4, -⟩ := Cond.instantiable_spec (mvT (args := args) hZ wi)
  have i5 : ki.isInterface = false := by cases hq : ki.isInterface <;> simp [hq] at i4 ⊢
  have hsel := selects_self_of_private (args := args) i1 i2 i5 hp (mvT hZ w6) hy
  obtain ⟨v, _, ⟨T', L', k', n'⟩, -, X', ⟨Lc, hQ, l', y', z'⟩, st⟩ := X.privateBack hx (y := y) hown (mvT hZ w1) (mvT hZ w6) hsel hp (mvT hZ w4) hy (backOf (W := W) hM hZ w4 w3 hf hl) hg hsize (Steps.refl _) (a := a) (cell := ce) (by rw [eT]; exact hce) hst (argsL := argsL) (rest := rest) hlen hstack hW hd (fun _ _ => ⟨has, eT, hc, hs⟩)
  dsimp only [Pt.U, Pt.locs, Pt.cells, Pt.slots] at X' l' y' z' st hQ
  subst l' y' z'
  exact Goes.on (fun _ q => st.trans q) (k v T' Lc X' hQ)
theorem eqInt {t : Jvm.Term} {i : Int32} (hq : (Jvm.Cond.eq t (.int i)).value args Z none Z [] = some true) : t.eval args Z none [] Z = some (.int i) := by
  obtain ⟨x, y, e1, e2, -, k⟩ := cmp_v (Or.inl hq)
  cases Option.some.inj ((Term.int_eval i).symm.trans e2)
  obtain ⟨z, rfl⟩ := k
  rw [e1]
  simpa [Jvm.Cond.value, e1, e2] using hq
theorem fldInt {t : Jvm.Term} {C n d : String} {i : Int32} {a : Addr} (ht : t.eval args Z none [] Z = some (.ref a)) (hq : (Jvm.Cond.eq (.field t C n d) (.int i)).value args Z none Z [] = some true) : Fld Z Z.heap a C n d (.int i) := by
  refine Fld.start ((fld_at (C := C) (n := n) (dd := d) ht).symm.trans ?_)
  obtain ⟨x, y, e1, e2, -, k⟩ := cmp_v (Or.inl hq)
  cases Option.some.inj ((Term.int_eval i).symm.trans e2)
  obtain ⟨z, rfl⟩ := k
  rw [e1]
  simpa [Jvm.Cond.value, e1, e2] using hq
theorem fldRef {t u : Jvm.Term} {C n d : String} {a b : Addr} (ht : t.eval args Z none [] Z = some (.ref a)) (hu : u.eval args Z none [] Z = some (.ref b)) (hq : (Jvm.Cond.eq (.field t C n d) u).value args Z none Z [] = some true) : Fld Z Z.heap a C n d (.ref b) := by
  refine Fld.start ((fld_at (C := C) (n := n) (dd := d) ht).symm.trans ?_)
  obtain ⟨x, y, e1, e2, k, k'⟩ := cmp_v (Or.inl hq)
  cases Option.some.inj (hu.symm.trans e2)
  have := gotT (eq_R e1 e2 k'.2 rfl) hq
  rw [e1, this]
theorem lremM {g : JFrame} {target : State} (X : Stand p l e R s m args below meth c T locs cells slots) (hx : p.tables.exec = Jvm.exec) (hg : g.method = m) {x y : Int64} {rest : List Value} (hd : decode c.code g.pc = .ok (.lrem, 1)) (hs : g.stack = .long y :: .long x :: rest) (hy : y ≠ 0)
    (hr : Steps p.tables e below (T.setTop { g with pc := g.pc + 1, stack := .long (x % y) :: rest }) target) : Steps p.tables e below (T.setTop g) target :=
  XS.lrem X.here hx hg hd hs hy (by rw [lrem_mod]; exact hr)
theorem nsRoot {O K : String} {n : Nat} (w : (Jvm.Cond.noSuperclass O).before a0 Z = true) (wk : (Jvm.Cond.instantiable K n).before a0 Z = true) (hn : O ≠ K) : NS Z O K := by
  obtain ⟨c, k, h1, h2, h3, -, -⟩ := Cond.noSuperclass_spec w
  obtain ⟨t, kt, g1, -⟩ := Cond.instantiable_spec wk
  have ne := ids_ne h1 g1 hn
  refine ⟨c, t, h1, g1, fun fuel => ?_⟩
  cases fuel with
  | zero => rfl
  | succ f => simp [Vm.isSubclassAux, ne, h2, h3]
theorem nsNo {C S K : String} {n : Nat} (w : (Jvm.Cond.superclass C S).before a0 Z = true) (wk : (Jvm.Cond.instantiable K n).before a0 Z = true) (q : NS Z C K) (hn : C ≠ K) : ∃ c t, Z.vm.findClass C = some c ∧ Z.vm.findClass K = some t ∧ Z.vm.assignable c t = false := by
  obtain ⟨c, t, h0, g0, n3⟩ := q
  obtain ⟨p, k, kp, h1, h2, h3, h4, h5, -, h7⟩ := Cond.superclass_spec h0 w
  obtain ⟨t', k', g1, g2, g5, g6, -⟩ := Cond.instantiable_spec wk
  cases g0.symm.trans g1
  have g7 : k'.isInterface = false := by cases hq : k'.isInterface <;> simp [hq] at g6 ⊢
  have ne := ids_ne h0 g0 hn
  refine ⟨c, t, h0, g0, ?_⟩
  show Z.vm.assignableAux (255 + 1) c t = false
  simp [Vm.assignableAux, ne, h2, g2, h5, g5, g7, Vm.isSubclass, n3]
theorem narB {z : Int32} (h : z = 0 ∨ z = 1) : narrow .boolean (.int z) = .int z := by rcases h with rfl | rfl <;> rfl
theorem narR {t : FieldType} {v : Value} (ht : t.isReference = true) (h : v.isRef = true) : narrow t v = v := by cases t <;> first | rfl | cases ht
theorem fitR {t : FieldType} {v : Value} (ht : t.isReference = true) (h : v.isRef = true) : fits t v = true := by
  rcases ref_cases h with rfl | ⟨a, rfl⟩ <;> cases t <;> first | rfl | cases ht
theorem fitB {z : Int32} (h : z = 0 ∨ z = 1) : fits .boolean (.int z) = true := by rcases h with rfl | rfl <;> rfl
end Steps
/-- an array by what its places hold -/
def Upd {α : Type} (f : Nat → α) (j : Nat) (x : α) : Nat → α := fun i => if i = j then x else f i
def Arf {α : Type} (Z : State) (h : Heap) (a : Addr) (ty : FieldType) (con : α → Value) (n : Nat) (f : Nat → α) : Prop := ∃ c : Cell, Arr Z h a c ty ∧ c.slots.size = n ∧ ∀ i, i < n → c.slots[i]? = some (con (f i))
theorem updS {α : Type} (f : Nat → α) (j : Nat) (x : α) : Upd f j x j = x := if_pos rfl
theorem updN {α : Type} (f : Nat → α) {i j : Nat} (x : α) (h : i ≠ j) : Upd f j x i = f i := if_neg h
section Arrays
variable {p : Program} {l : Launch} {e : Env} {R : Room} {s : State} {m : MethodId} {args : Array Value} {below : List Frame} {meth : Method} {c : Code} {T T' : State} {locs : List Loc} {cells slots : Nat} {Z : State} {a0 : Array Value} {h h' : Heap} {P : Outcome → State → Prop} {g g' : JFrame} {α : Type} {con : α → Value} {a b : Addr} {ty : FieldType} {n : Nat} {f : Nat → α} {j : Int32} {rest : List Value}
theorem Arf.lt (F : Arf Z h a ty con n f) : a < h.size := by obtain ⟨c, A, -⟩ := F; exact A.lt
theorem Arf.ext (F : Arf Z h a ty con n f) (E : Ext h h') : Arf Z h' a ty con n f := by obtain ⟨c, A, r⟩ := F; exact ⟨c, A.ext E, r⟩
theorem Arf.other {sl : Nat} {v : Value} (F : Arf Z h b ty con n f) (W : Wr h h' a sl v) (q : b ≠ a) : Arf Z h' b ty con n f := by obtain ⟨c, A, r⟩ := F; exact ⟨c, A.other W q, r⟩
theorem Arf.keep {ws : List Addr} (F : Arf Z h a ty con n f) (K : Keep h h' ws) (q : a ∉ ws) : Arf Z h' a ty con n f := by obtain ⟨c, A, r⟩ := F; exact ⟨c, ⟨K.2.1 a c A.1 q, A.2⟩, r⟩
theorem Arf.new {cA : ClassId} {z : Int32} {d : α} (A : Arr Z h a (newA cA ty z) ty) (hd : defaultValue ty = con d) : Arf Z h a ty con z.toNatClampNeg (fun _ => d) :=
  ⟨_, A, sz_new _ _ _, fun i hi => by simp [newA, hi, hd]⟩
theorem Arf.set (F : Arf Z h a ty con n f) {k : Nat} {v : Value} {x : α} (W : Wr h h' a k v) (hv : v = con x) : Arf Z h' a ty con n (Upd f k x) := by
  obtain ⟨c, A, S, H⟩ := F
  refine ⟨_, A.same W, (sz_set _ _ _).trans S, fun i hi => ?_⟩
  subst hv
  by_cases q : i = k
  · subst q; simp [Cell.setSlot, Upd, S, hi]
  · have : ((c.setSlot k (con x)).slots)[i]? = c.slots[i]? := Array.getElem?_setIfInBounds_ne (Ne.symm q)
    rw [this, H i hi]; simp [Upd, q]
theorem Arf.inb {c : Cell} (S : c.slots.size = n) (hj : ¬ j < 0 ∧ j.toNatClampNeg < n) : ¬ (j < 0 ∨ c.slots.size ≤ j.toNatClampNeg) := fun q => q.elim hj.1 fun r => by omega
theorem ldJ {f : Nat → Int64} (X : Stand p l e R s m args below meth c T locs cells slots) (hx : p.tables.exec = Jvm.exec) (hZ : Z.Warmed39 s.vm) (eT : T.heap = h) (F : Arf Z h a .long Value.long n f) (hj : ¬ j < 0 ∧ j.toNatClampNeg < n) (hg : g.method = m) (hs : g.stack = .int j :: .ref a :: rest) (hd : decode c.code g.pc = .ok (.laload, 1)) {t : State}
    (k : Steps p.tables e below (T.setTop { g with pc := g.pc + 1, stack := .long (f j.toNatClampNeg) :: rest }) t) : Steps p.tables e below (T.setTop g) t := by
  obtain ⟨cl, A, S, H⟩ := F
  exact X.laload hx (by rw [eT]; exact A.1) (State.isArrayOf_alike hZ.alike A.2.1) A.2.2 (Arf.inb S hj) (H _ hj.2) hg hs hd t k
theorem ldJm {f : Nat → Int64} (X : Stand p l e R s m args below meth c T locs cells slots) (hx : p.tables.exec = Jvm.exec) (hZ : Z.Warmed39 s.vm) (eT : T.heap = h) (F : Arf Z h a .long Value.long n f) (hj : ¬ j < 0 ∧ j.toNatClampNeg < n) {pc : Nat} {Ls : Array Slot} (hd : decode c.code pc = .ok (.laload, 1)) {t : State}
    (k : Steps p.tables e below (T.setTop (mkF m (pc + 1) Ls (.long (f j.toNatClampNeg) :: rest))) t) : Steps p.tables e below (T.setTop (mkF m pc Ls (.int j :: .ref a :: rest))) t :=
  ldJ (g := mkF m pc Ls (.int j :: .ref a :: rest)) X hx hZ eT F hj rfl rfl hd k
theorem ldI {f : Nat → Int32} (X : Stand p l e R s m args below meth c T locs cells slots) (hx : p.tables.exec = Jvm.exec) (hZ : Z.Warmed39 s.vm) (eT : T.heap = h) (F : Arf Z h a .int Value.int n f) (hj : ¬ j < 0 ∧ j.toNatClampNeg < n) (hg : g.method = m) (hs : g.stack = .int j :: .ref a :: rest) (hd : decode c.code g.pc = .ok (.iaload, 1)) {t : State}
    (k : Steps p.tables e below (T.setTop { g with pc := g.pc + 1, stack := .int (f j.toNatClampNeg) :: rest }) t) : Steps p.tables e below (T.setTop g) t := by
  obtain ⟨cl, A, S, H⟩ := F
  exact X.iaload hx (by rw [eT]; exact A.1) (State.isArrayOf_alike hZ.alike A.2.1) A.2.2 (Arf.inb S hj) (H _ hj.2) hg hs hd t k
theorem ldIm {f : Nat → Int32} (X : Stand p l e R s m args below meth c T locs cells slots) (hx : p.tables.exec = Jvm.exec) (hZ : Z.Warmed39 s.vm) (eT : T.heap = h) (F : Arf Z h a .int Value.int n f) (hj : ¬ j < 0 ∧ j.toNatClampNeg < n) {pc : Nat} {Ls : Array Slot} (hd : decode c.code pc = .ok (.iaload, 1)) {t : State}
    (k : Steps p.tables e below (T.setTop (mkF m (pc + 1) Ls (.int (f j.toNatClampNeg) :: rest))) t) : Steps p.tables e below (T.setTop (mkF m pc Ls (.int j :: .ref a :: rest))) t :=
  ldI (g := mkF m pc Ls (.int j :: .ref a :: rest)) X hx hZ eT F hj rfl rfl hd k
theorem ldZ {f : Nat → Int32} (X : Stand p l e R s m args below meth c T locs cells slots) (hx : p.tables.exec = Jvm.exec) (hZ : Z.Warmed39 s.vm) (eT : T.heap = h) (F : Arf Z h a .boolean Value.int n f) (hj : ¬ j < 0 ∧ j.toNatClampNeg < n) (hg : g.method = m) (hs : g.stack = .int j :: .ref a :: rest) (hd : decode c.code g.pc = .ok (.baload, 1)) {t : State}
    (k : Steps p.tables e below (T.setTop { g with pc := g.pc + 1, stack := .int (f j.toNatClampNeg) :: rest }) t) : Steps p.tables e below (T.setTop g) t := by
  obtain ⟨cl, A, S, H⟩ := F
  exact X.baloadBooleans hx (by rw [eT]; exact A.1) (State.isArrayOf_alike hZ.alike A.2.1) A.2.2 (Arf.inb S hj) (H _ hj.2) hg hs hd t k
theorem ldZm {f : Nat → Int32} (X : Stand p l e R s m args below meth c T locs cells slots) (hx : p.tables.exec = Jvm.exec) (hZ : Z.Warmed39 s.vm) (eT : T.heap = h) (F : Arf Z h a .boolean Value.int n f) (hj : ¬ j < 0 ∧ j.toNatClampNeg < n) {pc : Nat} {Ls : Array Slot} (hd : decode c.code pc = .ok (.baload, 1)) {t : State}
    (k : Steps p.tables e below (T.setTop (mkF m (pc + 1) Ls (.int (f j.toNatClampNeg) :: rest))) t) : Steps p.tables e below (T.setTop (mkF m pc Ls (.int j :: .ref a :: rest))) t :=
  ldZ (g := mkF m pc Ls (.int j :: .ref a :: rest)) X hx hZ eT F hj rfl rfl hd k
theorem ldY {f : Nat → Int32} (X : Stand p l e R s m args below meth c T locs cells slots) (hx : p.tables.exec = Jvm.exec) (hZ : Z.Warmed39 s.vm) (eT : T.heap = h) (F : Arf Z h a .byte Value.int n f) (hj : ¬ j < 0 ∧ j.toNatClampNeg < n) (hg : g.method = m) (hs : g.stack = .int j :: .ref a :: rest) (hd : decode c.code g.pc = .ok (.baload, 1)) {t : State}
    (k : Steps p.tables e below (T.setTop { g with pc := g.pc + 1, stack := .int (f j.toNatClampNeg) :: rest }) t) : Steps p.tables e below (T.setTop g) t := by
  obtain ⟨cl, A, S, H⟩ := F
  exact X.baloadBytes hx (by rw [eT]; exact A.1) (State.isArrayOf_alike hZ.alike A.2.1) A.2.2 (Arf.inb S hj) (H _ hj.2) hg hs hd t k
theorem ldYm {f : Nat → Int32} (X : Stand p l e R s m args below meth c T locs cells slots) (hx : p.tables.exec = Jvm.exec) (hZ : Z.Warmed39 s.vm) (eT : T.heap = h) (F : Arf Z h a .byte Value.int n f) (hj : ¬ j < 0 ∧ j.toNatClampNeg < n) {pc : Nat} {Ls : Array Slot} (hd : decode c.code pc = .ok (.baload, 1)) {t : State}
    (k : Steps p.tables e below (T.setTop (mkF m (pc + 1) Ls (.int (f j.toNatClampNeg) :: rest))) t) : Steps p.tables e below (T.setTop (mkF m pc Ls (.int j :: .ref a :: rest))) t :=
  ldY (g := mkF m pc Ls (.int j :: .ref a :: rest)) X hx hZ eT F hj rfl rfl hd k
theorem ldD {f : Nat → UInt64} (X : Stand p l e R s m args below meth c T locs cells slots) (hx : p.tables.exec = Jvm.exec) (hZ : Z.Warmed39 s.vm) (eT : T.heap = h) (F : Arf Z h a .double Value.double n f) (hj : ¬ j < 0 ∧ j.toNatClampNeg < n) (hg : g.method = m) (hs : g.stack = .int j :: .ref a :: rest) (hd : decode c.code g.pc = .ok (.daload, 1)) {t : State}
    (k : Steps p.tables e below (T.setTop { g with pc := g.pc + 1, stack := .double (f j.toNatClampNeg) :: rest }) t) : Steps p.tables e below (T.setTop g) t := by
  obtain ⟨cl, A, S, H⟩ := F
  exact X.daload hx (by rw [eT]; exact A.1) (State.isArrayOf_alike hZ.alike A.2.1) A.2.2 (Arf.inb S hj) (H _ hj.2) hg hs hd t k
theorem ldDm {f : Nat → UInt64} (X : Stand p l e R s m args below meth c T locs cells slots) (hx : p.tables.exec = Jvm.exec) (hZ : Z.Warmed39 s.vm) (eT : T.heap = h) (F : Arf Z h a .double Value.double n f) (hj : ¬ j < 0 ∧ j.toNatClampNeg < n) {pc : Nat} {Ls : Array Slot} (hd : decode c.code pc = .ok (.daload, 1)) {t : State}
    (k : Steps p.tables e below (T.setTop (mkF m (pc + 1) Ls (.double (f j.toNatClampNeg) :: rest))) t) : Steps p.tables e below (T.setTop (mkF m pc Ls (.int j :: .ref a :: rest))) t :=
  ldD (g := mkF m pc Ls (.int j :: .ref a :: rest)) X hx hZ eT F hj rfl rfl hd k
theorem aLen (X : Stand p l e R s m args below meth c T locs cells slots) (hx : p.tables.exec = Jvm.exec) (hZ : Z.Warmed39 s.vm) (eT : T.heap = h) (F : Arf Z h a ty con n f) (hg : g.method = m) (hs : g.stack = .ref a :: rest) (hd : decode c.code g.pc = .ok (.arraylength, 1)) {t : State}
    (k : Steps p.tables e below (T.setTop { g with pc := g.pc + 1, stack := .int n.toInt32 :: rest }) t) : Steps p.tables e below (T.setTop g) t := by
  obtain ⟨cl, A, S, H⟩ := F
  exact X.arraylength hx (by rw [eT]; exact A.1) (State.isArrayOf_alike hZ.alike A.2.1) hg hs hd t (by rw [S]; exact k)
theorem aLenm (X : Stand p l e R s m args below meth c T locs cells slots) (hx : p.tables.exec = Jvm.exec) (hZ : Z.Warmed39 s.vm) (eT : T.heap = h) (F : Arf Z h a ty con n f) {pc : Nat} {Ls : Array Slot} (hd : decode c.code pc = .ok (.arraylength, 1)) {t : State}
    (k : Steps p.tables e below (T.setTop (mkF m (pc + 1) Ls (.int n.toInt32 :: rest))) t) : Steps p.tables e below (T.setTop (mkF m pc Ls (.ref a :: rest))) t :=
  aLen (g := mkF m pc Ls (.ref a :: rest)) X hx hZ eT F rfl rfl hd k
theorem wrJ {f : Nat → Int64} {x : Int64} (X : Stand p l e R s m args below meth c T locs cells slots) (hx : p.tables.exec = Jvm.exec) (hZ : Z.Warmed39 s.vm) (eT : T.heap = h) (F : Arf Z h a .long Value.long n f) (hj : ¬ j < 0 ∧ j.toNatClampNeg < n) (hg : g.method = m) (hs : g.stack = .long x :: .int j :: .ref a :: rest) (hd : decode c.code g.pc = .ok (.lastore, 1)) :
    ∃ T' h', Stand p l e R s m args below meth c T' (locs ++ [⟨a, j.toNatClampNeg⟩]) cells slots ∧ T'.heap = h' ∧ Wr h h' a j.toNatClampNeg (.long x) ∧ Arf Z h' a .long Value.long n (Upd f j.toNatClampNeg x) ∧ ∀ target, Steps p.tables e below (T'.setTop { g with pc := g.pc + 1, stack := rest }) target → Steps p.tables e below (T.setTop g) target := by
  have F' := F
  obtain ⟨cl, A, S, H⟩ := F
  obtain ⟨T', h', X', e', W, st⟩ := stJ X hx hZ eT A (Arf.inb S hj) hg hs hd
  exact ⟨T', h', X', e', W, F'.set W rfl, st⟩
theorem wrI {f : Nat → Int32} {x : Int32} (X : Stand p l e R s m args below meth c T locs cells slots) (hx : p.tables.exec = Jvm.exec) (hZ : Z.Warmed39 s.vm) (eT : T.heap = h) (F : Arf Z h a .int Value.int n f) (hj : ¬ j < 0 ∧ j.toNatClampNeg < n) (hg : g.method = m) (hs : g.stack = .int x :: .int j :: .ref a :: rest) (hd : decode c.code g.pc = .ok (.iastore, 1)) :
    ∃ T' h', Stand p l e R s m args below meth c T' (locs ++ [⟨a, j.toNatClampNeg⟩]) cells slots ∧ T'.heap = h' ∧ Wr h h' a j.toNatClampNeg (.int x) ∧ Arf Z h' a .int Value.int n (Upd f j.toNatClampNeg x) ∧ ∀ target, Steps p.tables e below (T'.setTop { g with pc := g.pc + 1, stack := rest }) target → Steps p.tables e below (T.setTop g) target := by
  have F' := F
  obtain ⟨cl, A, S, H⟩ := F
  obtain ⟨T', h', X', e', W, st⟩ := stI X hx hZ eT A (Arf.inb S hj) hg hs hd
  exact ⟨T', h', X', e', W, F'.set W rfl, st⟩
theorem wrD {f : Nat → UInt64} {x : UInt64} (X : Stand p l e R s m args below meth c T locs cells slots) (hx : p.tables.exec = Jvm.exec) (hZ : Z.Warmed39 s.vm) (eT : T.heap = h) (F : Arf Z h a .double Value.double n f) (hj : ¬ j < 0 ∧ j.toNatClampNeg < n) (hg : g.method = m) (hs : g.stack = .double x :: .int j :: .ref a :: rest) (hd : decode c.code g.pc = .ok (.dastore, 1)) :
    ∃ T' h', Stand p l e R s m args below meth c T' (locs ++ [⟨a, j.toNatClampNeg⟩]) cells slots ∧ T'.heap = h' ∧ Wr h h' a j.toNatClampNeg (.double x) ∧ Arf Z h' a .double Value.double n (Upd f j.toNatClampNeg x) ∧ ∀ target, Steps p.tables e below (T'.setTop { g with pc := g.pc + 1, stack := rest }) target → Steps p.tables e below (T.setTop g) target := by
  have F' := F
  obtain ⟨cl, A, S, H⟩ := F
  obtain ⟨T', h', X', e', W, st⟩ := stD X hx hZ eT A (Arf.inb S hj) hg hs hd
  exact ⟨T', h', X', e', W, F'.set W rfl, st⟩
theorem wrZ {f : Nat → Int32} {x : Int32} (X : Stand p l e R s m args below meth c T locs cells slots) (hx : p.tables.exec = Jvm.exec) (hZ : Z.Warmed39 s.vm) (eT : T.heap = h) (F : Arf Z h a .boolean Value.int n f) (hj : ¬ j < 0 ∧ j.toNatClampNeg < n) (hb : x = 0 ∨ x = 1) (hg : g.method = m) (hs : g.stack = .int x :: .int j :: .ref a :: rest) (hd : decode c.code g.pc = .ok (.bastore, 1)) :
    ∃ T' h', Stand p l e R s m args below meth c T' (locs ++ [⟨a, j.toNatClampNeg⟩]) cells slots ∧ T'.heap = h' ∧ Wr h h' a j.toNatClampNeg (.int x) ∧ Arf Z h' a .boolean Value.int n (Upd f j.toNatClampNeg x) ∧ ∀ target, Steps p.tables e below (T'.setTop { g with pc := g.pc + 1, stack := rest }) target → Steps p.tables e below (T.setTop g) target := by
  have F' := F
  obtain ⟨cl, A, S, H⟩ := F
  obtain ⟨T', h', X', e', W, st⟩ := stZ X hx hZ eT A (Arf.inb S hj) hg hs hd
  have q : nar .boolean x = x := by rcases hb with rfl | rfl <;> rfl
  rw [q] at W
  exact ⟨T', h', X', e', W, F'.set W rfl, st⟩
theorem nat32 {n : Nat} (hn : n < 2 ^ 31) : n.toInt32.toNatClampNeg = n := by
  have q : n.toInt32.toInt = n := len_toInt hn
  simp only [Int32.toNatClampNeg, q]; omega
theorem pos32 {n : Nat} (hn : n < 2 ^ 31) : ¬ n.toInt32 < 0 := by
  have q : n.toInt32.toInt = n := len_toInt hn
  rw [Int32.lt_iff_toInt_lt, q]; have k : (0 : Int32).toInt = 0 := rfl
  omega
theorem Arf.arv (F : Arf Z h a ty con n f) (hn : n < 2 ^ 31) (hf : ∀ x, fits ty (con x) = true) (d : Value) : ∃ k, Arv Z h a k ty n.toInt32 ((List.range n).map fun i => con (f i)) d := by
  obtain ⟨cl, A, S, H⟩ := F
  refine ⟨cl.cls, cl, A, rfl, by rw [nat32 hn, S], pos32 hn, fun i hi => ?_, fun i hi => ?_⟩
  · rw [S] at hi; rw [H i hi]; simp [List.getD, hi]
  · rw [S] at hi; simp [List.getD, hi, hf]
theorem Arf.arv' (F : Arf Z h a ty con n f) (hn : n < 2 ^ 31) (hf : ∀ i, i < n → fits ty (con (f i)) = true) (d : Value) : ∃ k, Arv Z h a k ty n.toInt32 ((List.range n).map fun i => con (f i)) d := by
  obtain ⟨cl, A, S, H⟩ := F
  refine ⟨cl.cls, cl, A, rfl, by rw [nat32 hn, S], pos32 hn, fun i hi => ?_, fun i hi => ?_⟩
  · rw [S] at hi; rw [H i hi]; simp [List.getD, hi]
  · rw [S] at hi; simp [List.getD, hi, hf i hi]
theorem wrC {f : Nat → Int32} {x : Int32} (X : Stand p l e R s m args below meth c T locs cells slots) (hx : p.tables.exec = Jvm.exec) (hZ : Z.Warmed39 s.vm) (eT : T.heap = h) (F : Arf Z h a .char Value.int n f) (hj : ¬ j < 0 ∧ j.toNatClampNeg < n) (hb : nar .char x = x) (hg : g.method = m) (hs : g.stack = .int x :: .int j :: .ref a :: rest) (hd : decode c.code g.pc = .ok (.castore, 1)) :
    ∃ T' h', Stand p l e R s m args below meth c T' (locs ++ [⟨a, j.toNatClampNeg⟩]) cells slots ∧ T'.heap = h' ∧ Wr h h' a j.toNatClampNeg (.int x) ∧ Arf Z h' a .char Value.int n (Upd f j.toNatClampNeg x) ∧ ∀ target, Steps p.tables e below (T'.setTop { g with pc := g.pc + 1, stack := rest }) target → Steps p.tables e below (T.setTop g) target := by
  have F' := F
  obtain ⟨cl, A, S, H⟩ := F
  obtain ⟨T', h', X', e', W, st⟩ := stC X hx hZ eT A (Arf.inb S hj) hg hs hd
  rw [hb] at W
  exact ⟨T', h', X', e', W, F'.set W rfl, st⟩
theorem narC (y : Int32) : nar .char (y.toUInt32.toUInt16.toUInt32.toInt32) = y.toUInt32.toUInt16.toUInt32.toInt32 := by
  simp only [nar, UInt32.toUInt32_toInt32, UInt16.toUInt16_toUInt32]
theorem Arv.arf {k : ClassId} {z : Int32} {vs : List Value} {d : Value} (V : Arv Z h a k ty z vs d) (hz : z.toNatClampNeg = n) (hv : ∀ i, i < n → vs.getD i d = con (f i)) : Arf Z h a ty con n f := by
  obtain ⟨cl, A, -, S, -, H, -⟩ := V
  exact ⟨cl, A, S.trans hz, fun i hi => by rw [H i (by omega), hv i hi]⟩
/-- System.arraycopy(src, 0, dst, 0, len) -/
theorem acF (X : Stand p l e R s m args below meth c T locs cells slots) (hx : p.tables.exec = Jvm.exec) (hZ : Z.Warmed39 s.vm) {own : String} {index : Nat} (hown : s.vm.findClass own = some m.cls)
    (w1 : (Jvm.Cond.methodLink own index Jvm.Stand.acN).before a0 Z = true) (w2 : (Jvm.Cond.native Jvm.Stand.acN).before a0 Z = true) (w3 : (Jvm.Cond.static Jvm.Stand.acN).before a0 Z = true) (w4 : (Jvm.Cond.initialized "java/lang/System").before a0 Z = true) (eT : T.heap = h)
    {n' : Nat} {f' : Nat → α} {nn : Int32} {len : Nat} (A : Arf Z h a ty con n f) (B : Arf Z h b ty con n' f') (hty : refKind ty = false) (hf : ∀ x, fits ty (con x) = true) (hn : n < 2 ^ 31) (hn' : n' < 2 ^ 31) (h3 : ¬ nn < 0) (hl : nn.toNatClampNeg = len) (h4 : len ≤ n) (h5 : len ≤ n') {n0 : Nat} (N : Fr n0 locs) (ge : n0 ≤ b)
    (hg : g.method = m) (hsize : g.locals.size = c.maxLocals) (hs : g.stack = .int nn :: .int 0 :: .ref b :: .int 0 :: .ref a :: rest) (hd : decode c.code g.pc = .ok (.invokestatic index, 3))
    (hfr : 1 ≤ R.frames) {W : Nat} (hW : 2 * g.monitorRoom + (rest.map fun v => v.category).sum ≤ W) (hlo : W + (nativeFrameWords "java/lang/System" "arraycopy" 5 + 11) ≤ R.locals) :
    ∃ T' h' L, Stand p l e R s m args below meth c T' L cells slots ∧ T'.heap = h' ∧ Fr n0 L ∧ Keep h h' [b] ∧ Arf Z h' b ty con n' (fun i => if i < len then f i else f' i) ∧
      ∀ target, Steps p.tables e below (T'.setTop { g with pc := g.pc + 3, stack := rest }) target → Steps p.tables e below (T.setTop g) target := by
  obtain ⟨k, VA⟩ := A.arv hn hf .null
  obtain ⟨k', VB⟩ := B.arv hn' hf .null
  have z0 : (0 : Int32).toNatClampNeg = 0 := rfl
  obtain ⟨T', h', L, X', e', F', K', V', st⟩ := cpA X hx hZ hown w1 w2 w3 w4 eT VA VB (us := (List.range nn.toNatClampNeg).map fun i => ((List.range n).map fun i => con (f i)).getD ((0 : Int32).toNatClampNeg + i) .null) (Or.inl ⟨rfl, hty⟩) (sp := 0) (dp := 0) (nn := nn) (by decide) (by decide) h3 (by rw [z0, hl, nat32 hn]; omega) (by rw [z0, hl, nat32 hn']; omega) rfl (by rw [z0, hl]; simp; omega) N ge hg hsize hs hd hfr hW hlo
  refine ⟨T', h', L, X', e', F', K', Arv.arf V' (nat32 hn') fun i hi => ?_, st⟩
  rw [z0, hl]
  by_cases q : i < len
  · have q2 : i < n := by omega
    simp [List.getD, List.getElem?_append, q, q2]
  · have q3 : len + (i - len) = i := by omega
    have q4 : i < n' := hi
    simp [List.getD, List.getElem?_append, q, q3, q4]
/-- an array of arrays, with the class that it takes -/
def Blk (Z : State) (h : Heap) (b : Addr) (ty : FieldType) (C : String) (n : Nat) (f : Nat → Value) : Prop := ∃ c : Cell, Arr Z h b c (.array ty) ∧ OvrA Z c.cls ty C ∧ c.slots.size = n ∧ ∀ i, i < n → c.slots[i]? = some (f i)
section Blks
variable {C : String} {f : Nat → Value}
theorem Blk.lt (F : Blk Z h a ty C n f) : a < h.size := by obtain ⟨c, A, -⟩ := F; exact A.lt
theorem Blk.ext (F : Blk Z h a ty C n f) (E : Ext h h') : Blk Z h' a ty C n f := by obtain ⟨c, A, r⟩ := F; exact ⟨c, A.ext E, r⟩
theorem Blk.other {sl : Nat} {v : Value} (F : Blk Z h b ty C n f) (W : Wr h h' a sl v) (q : b ≠ a) : Blk Z h' b ty C n f := by obtain ⟨c, A, r⟩ := F; exact ⟨c, A.other W q, r⟩
theorem Blk.keep {ws : List Addr} (F : Blk Z h a ty C n f) (K : Keep h h' ws) (q : a ∉ ws) : Blk Z h' a ty C n f := by obtain ⟨c, A, r⟩ := F; exact ⟨c, ⟨K.2.1 a c A.1 q, A.2⟩, r⟩
theorem Blk.new {cA : ClassId} {z : Int32} (A : Arr Z h a (newA cA (.array ty) z) (.array ty)) (O : OvrA Z cA ty C) : Blk Z h a ty C z.toNatClampNeg (fun _ => .null) :=
  ⟨_, A, O, sz_new _ _ _, fun i hi => by simp [newA, hi, defaultValue]⟩
theorem ldB (X : Stand p l e R s m args below meth c T locs cells slots) (hx : p.tables.exec = Jvm.exec) (hZ : Z.Warmed39 s.vm) (eT : T.heap = h) (F : Blk Z h a ty C n f) (hj : ¬ j < 0 ∧ j.toNatClampNeg < n) (hg : g.method = m) (hs : g.stack = .int j :: .ref a :: rest) (hd : decode c.code g.pc = .ok (.aaload, 1)) {t : State}
    (k : Steps p.tables e below (T.setTop { g with pc := g.pc + 1, stack := f j.toNatClampNeg :: rest }) t) : Steps p.tables e below (T.setTop g) t := by
  obtain ⟨cl, A, O, S, H⟩ := F
  exact X.aaload hx (by rw [eT]; exact A.1) (State.isArrayOf_alike hZ.alike A.2.1) rfl A.2.2 (Arf.inb S hj) (H _ hj.2) hg hs hd t k
theorem ldBm (X : Stand p l e R s m args below meth c T locs cells slots) (hx : p.tables.exec = Jvm.exec) (hZ : Z.Warmed39 s.vm) (eT : T.heap = h) (F : Blk Z h a ty C n f) (hj : ¬ j < 0 ∧ j.toNatClampNeg < n) {pc : Nat} {Ls : Array Slot} (hd : decode c.code pc = .ok (.aaload, 1)) {t : State}
    (k : Steps p.tables e below (T.setTop (mkF m (pc + 1) Ls (f j.toNatClampNeg :: rest))) t) : Steps p.tables e below (T.setTop (mkF m pc Ls (.int j :: .ref a :: rest))) t :=
  ldB (g := mkF m pc Ls (.int j :: .ref a :: rest)) X hx hZ eT F hj rfl rfl hd k
theorem lenB (X : Stand p l e R s m args below meth c T locs cells slots) (hx : p.tables.exec = Jvm.exec) (hZ : Z.Warmed39 s.vm) (eT : T.heap = h) (F : Blk Z h a ty C n f) (hg : g.method = m) (hs : g.stack = .ref a :: rest) (hd : decode c.code g.pc = .ok (.arraylength, 1)) {t : State}
    (k : Steps p.tables e below (T.setTop { g with pc := g.pc + 1, stack := .int n.toInt32 :: rest }) t) : Steps p.tables e below (T.setTop g) t := by
  obtain ⟨cl, A, O, S, H⟩ := F
  exact X.arraylength hx (by rw [eT]; exact A.1) (State.isArrayOf_alike hZ.alike A.2.1) hg hs hd t (by rw [S]; exact k)
theorem lenBm (X : Stand p l e R s m args below meth c T locs cells slots) (hx : p.tables.exec = Jvm.exec) (hZ : Z.Warmed39 s.vm) (eT : T.heap = h) (F : Blk Z h a ty C n f) {pc : Nat} {Ls : Array Slot} (hd : decode c.code pc = .ok (.arraylength, 1)) {t : State}
    (k : Steps p.tables e below (T.setTop (mkF m (pc + 1) Ls (.int n.toInt32 :: rest))) t) : Steps p.tables e below (T.setTop (mkF m pc Ls (.ref a :: rest))) t :=
  lenB (g := mkF m pc Ls (.ref a :: rest)) X hx hZ eT F rfl rfl hd k
theorem wrB {y : Addr} (X : Stand p l e R s m args below meth c T locs cells slots) (hx : p.tables.exec = Jvm.exec) (hZ : Z.Warmed39 s.vm) (eT : T.heap = h) (F : Blk Z h a ty C n f) (I : Ins Z h y C true) (hj : ¬ j < 0 ∧ j.toNatClampNeg < n) (hg : g.method = m) (hs : g.stack = .ref y :: .int j :: .ref a :: rest) (hd : decode c.code g.pc = .ok (.aastore, 1)) :
    ∃ T' h', Stand p l e R s m args below meth c T' (locs ++ [⟨a, j.toNatClampNeg⟩]) cells slots ∧ T'.heap = h' ∧ Wr h h' a j.toNatClampNeg (.ref y) ∧ Blk Z h' a ty C n (Upd f j.toNatClampNeg (.ref y)) ∧ ∀ target, Steps p.tables e below (T'.setTop { g with pc := g.pc + 1, stack := rest }) target → Steps p.tables e below (T.setTop g) target := by
  obtain ⟨cl, A, O, S, H⟩ := F
  obtain ⟨T', h', X', e', W, st⟩ := stR X hx hZ eT A (Arf.inb S hj) rfl (Sto.ofVA A rfl O I) hg hs hd
  refine ⟨T', h', X', e', W, ⟨_, A.same W, O, (sz_set _ _ _).trans S, fun i hi => ?_⟩, st⟩
  by_cases q : i = j.toNatClampNeg
  · subst q; simp [Cell.setSlot, Upd, S, hi]
  · have : ((cl.setSlot j.toNatClampNeg (.ref y)).slots)[i]? = cl.slots[i]? := Array.getElem?_setIfInBounds_ne (Ne.symm q)
    rw [this, H i hi]; simp [Upd, q]
theorem Blk.one {v : Value} (F : Blk Z h b ty C 1 f) (hv : f 0 = v) : Blk Z h b ty C 1 (fun _ => v) := by
  obtain ⟨c, A, O, S, H⟩ := F
  refine ⟨c, A, O, S, fun i hi => ?_⟩
  obtain rfl : i = 0 := by omega
  rw [H 0 hi, hv]
end Blks
end Arrays
end Jvm.Own
namespace Jvm.Own
open Sem ClassFile Op Lib Jvm.Stand Jvm.Free Jvm.LawKit Jvm.RoadKit
/-- what a body leaves that may have loaded String constants -/
abbrev LeavesW (Z : State) (EL : List (String × Nat)) (h0 : Heap) (s : State) (Q : Option Value → Heap → List Loc → Prop) (C N : Nat) (o : Outcome) (U : State) : Prop := ∃ v L, o = .returned v ∧ Q v U.heap L ∧ CHr Z EL s.vm h0 U.vm U.heap ∧ ReturnedEndW s o U L C N
abbrev PaysW (l : Launch) (Z : State) (EL : List (String × Nat)) (y : MethodName) (bytes : ByteArray) (maxL : Nat) (ret : Option FieldType) (ws : List Jvm.Cond) (rm : Room) (as : Array Value) (h0 : Heap) (Q : Option Value → Heap → List Loc → Prop) : Prop :=
  MetFree l y (head1 (Jvm.Cond.code y bytes maxL ret :: ws) rm) (fun a U => a = as ∧ Z.Warmed39 U.vm ∧ U.heap = h0 ∧ CHv Z EL U.vm h0) (fun _ _ _ _ _ => True) (fun _ U o U' => ∃ v L, o = .returned v ∧ Q v U'.heap L ∧ CHr Z EL U.vm U.heap U'.vm U'.heap ∧ ReturnedEndW U o U' L rm.cells rm.slots)
/-- a String with these bytes -/
def Str (Z : State) (h : Heap) (r b : Addr) (k : ClassId) (N : Int32) (vs : List Value) : Prop := Exa Z h r "java/lang/String" ∧ Fld Z h r "java/lang/String" "coder" "B" (.int 0) ∧ Fld Z h r "java/lang/String" "value" "[B" (.ref b) ∧ Arv Z h b k .byte N vs (.int 0)
theorem Str.ext {Z : State} {h h' : Heap} {r b : Addr} {k : ClassId} {N : Int32} {vs : List Value} (F : Str Z h r b k N vs) (E : Ext h h') : Str Z h' r b k N vs := ⟨F.1.ext E, F.2.1.ext E, F.2.2.1.ext E, F.2.2.2.ext E⟩
theorem Str.keep {Z : State} {h h' : Heap} {r b : Addr} {k : ClassId} {N : Int32} {vs : List Value} {ws : List Addr} (F : Str Z h r b k N vs) (K : Keep h h' ws) (hr : r ∉ ws) (hb : b ∉ ws) : Str Z h' r b k N vs := ⟨F.1.keep K, F.2.1.keep K hr, F.2.2.1.keep K hr, F.2.2.2.keep K hb⟩
theorem Str.wr {Z : State} {h h' : Heap} {r b a : Addr} {k : ClassId} {N : Int32} {vs : List Value} {sl : Nat} {v : Value} (F : Str Z h r b k N vs) (W : Wr h h' a sl v) (hr : r ≠ a) (hb : b ≠ a) : Str Z h' r b k N vs := ⟨F.1.wr W, F.2.1.other W (Or.inl hr), F.2.2.1.other W (Or.inl hr), F.2.2.2.other W hb⟩
theorem Str.ne {Z : State} {h : Heap} {r b r' b' : Addr} {k k' : ClassId} {N N' : Int32} {vs vs' : List Value} (F : Str Z h r b k N vs) (G : Str Z h r' b' k' N' vs') (hN : 0 < N.toNatClampNeg) (hv : vs.getD 0 (.int 0) ≠ vs'.getD 0 (.int 0)) : r ≠ r' := by
  by_cases q : b = b'
  · subst q
    obtain ⟨c, A, -, S, -, H, -⟩ := F.2.2.2
    obtain ⟨c', A', -, S', -, H', -⟩ := G.2.2.2
    cases A.1.symm.trans A'.1
    exact absurd (Option.some.inj ((H 0 (by omega)).symm.trans (H' 0 (by omega)))) hv
  · exact Fld.ne F.2.2.1 G.2.2.1 (fun z => q (Value.ref.inj z))
section StepsW
variable {p : Program} {l : Launch} {e : Env} {R : Room} {s : State} {m : MethodId} {args : Array Value} {below : List Frame} {meth : Method} {c : Code} {T T' : State} {locs : List Loc} {cells slots : Nat} {Z : State} {a0 : Array Value} {h h0 : Heap} {P : Outcome → State → Prop} {g g' : JFrame} {EL : List (String × Nat)} {vm vm0 vm1 : Vm} {k0 : Nat}
theorem chNil : CHv Z [] vm h := fun p hp => by cases hp
theorem chrNil {h' : Heap} (q : h.size ≤ h'.size) : CHr Z [] vm h vm1 h' := ⟨chNil, q, fun y b => by obtain ⟨p, hp, -⟩ := b; cases hp⟩
theorem endMono {t : State} {o : Outcome} {L : List Loc} {k n k' n' : Nat} (q : ReturnedEndW s o t L k n) (hk : k ≤ k') (hn : n ≤ n') : ReturnedEndW s o t L k' n' := ⟨q.1, q.2.1, q.2.2.1, q.2.2.2.mono hk hn⟩
theorem Goes.outW {Q : Option Value → Heap → List Loc → Prop} {C N : Nat} (X : Stand p l e R (s.setVm vm0) m args below meth c T locs cells slots) (hS : s.Since vm0 k0) (hk : k0 ≤ T.heap.size) (hZ : Z.Warmed39 vm0) (hEL : EW Z a0 EL) (hr : CHr Z EL s.vm h0 vm0 T.heap) {v : Option Value} (hv : meth.sig.returnType = none → v = none) (hlk : meth.locks = false) (hc : cells ≤ C) (hs : slots ≤ N) (hq : Q v T.heap locs)
    (st : ∀ fs, (∀ (f : JFrame) (acts : List Action), f.method = m → f.locked = none → f.entered = [] → (doReturn e (T.setTop f) acts v).1 = T.setFrames fs) → Steps p.tables e below (T.setTop g) (T.setFrames fs)) : Goes p e below (LeavesW Z EL h0 s Q C N) T g := by
  obtain ⟨fs, hrr, hrun, hended, hE⟩ := X.leaveW hS hk (v := v) hv hlk
  have hC : CHr Z EL s.vm h0 T.vm T.heap := hr.trans (CHv.at X hZ hEL hr.1)
  exact ⟨_, _, st fs hrr, hrun, hended, v, locs, rfl, hq, hC, endMono hE hc hs⟩
theorem Goes.retVW {Q : Option Value → Heap → List Loc → Prop} {C N : Nat} (X : Stand p l e R (s.setVm vm0) m args below meth c T locs cells slots) (hS : s.Since vm0 k0) (hk : k0 ≤ T.heap.size) (hZ : Z.Warmed39 vm0) (hEL : EW Z a0 EL) (hr : CHr Z EL s.vm h0 vm0 T.heap) (hx : p.tables.exec = Jvm.exec) (hlk : meth.locks = false) (hret : meth.sig.returnType = none) {pc : Nat} {Ls : Array Slot} (hd : decode c.code pc = .ok (.return_, 1)) (hc : cells ≤ C) (hs : slots ≤ N) (hq : Q none T.heap locs) :
    Goes p e below (LeavesW Z EL h0 s Q C N) T (mkF m pc Ls []) :=
  Goes.outW X hS hk hZ hEL hr (fun _ => rfl) hlk hc hs hq fun _ q => X.returnOut hx hret hd q
theorem Goes.retWW {Q : Option Value → Heap → List Loc → Prop} {C N : Nat} (X : Stand p l e R (s.setVm vm0) m args below meth c T locs cells slots) (hS : s.Since vm0 k0) (hk : k0 ≤ T.heap.size) (hZ : Z.Warmed39 vm0) (hEL : EW Z a0 EL) (hr : CHr Z EL s.vm h0 vm0 T.heap) (hx : p.tables.exec = Jvm.exec) (hlk : meth.locks = false) {t : FieldType} {i : Instr} {w : Value} (hret : meth.sig.returnType = some t) {pc : Nat} {Ls : Array Slot} {rest : List Value} (hn : narrow t w = w)
    (hi : (i = .ireturn ∧ (t = .int ∨ t = .boolean ∨ t = .byte ∨ t = .char ∨ t = .short) ∧ ∃ z, w = .int z) ∨ (i = .lreturn ∧ t = .long ∧ ∃ z, w = .long z) ∨ (i = .dreturn ∧ t = .double ∧ ∃ z, w = .double z) ∨ (i = .freturn ∧ t = .float ∧ ∃ z, w = .float z) ∨ (i = .areturn ∧ t.isReference = true ∧ w.isRef = true))
    (hd : decode c.code pc = .ok (i, 1)) (hc : cells ≤ C) (hs : slots ≤ N) (hq : Q (some w) T.heap locs) : Goes p e below (LeavesW Z EL h0 s Q C N) T (mkF m pc Ls (w :: rest)) :=
  Goes.outW X hS hk hZ hEL hr (fun h => by rw [hret] at h; cases h) hlk hc hs hq fun _ q => retOut X hx hret hn hi hd q
theorem Goes.retBW {Q : Option Value → Heap → List Loc → Prop} {C N : Nat} (X : Stand p l e R (s.setVm vm0) m args below meth c T locs cells slots) (hS : s.Since vm0 k0) (hk : k0 ≤ T.heap.size) (hZ : Z.Warmed39 vm0) (hEL : EW Z a0 EL) (hr : CHr Z EL s.vm h0 vm0 T.heap) (hx : p.tables.exec = Jvm.exec) (hlk : meth.locks = false) {z : Int32} (hret : meth.sig.returnType = some .boolean) {pc : Nat} {Ls : Array Slot} {rest : List Value} (hz : z = 0 ∨ z = 1) (hd : decode c.code pc = .ok (.ireturn, 1)) (hc : cells ≤ C) (hs : slots ≤ N) (hq : Q (some (.int z)) T.heap locs) :
    Goes p e below (LeavesW Z EL h0 s Q C N) T (mkF m pc Ls (.int z :: rest)) := Goes.retWW X hS hk hZ hEL hr hx hlk hret (by rcases hz with rfl | rfl <;> rfl) (Or.inl ⟨rfl, Or.inr (Or.inl rfl), _, rfl⟩) hd hc hs hq
theorem Goes.retAW {Q : Option Value → Heap → List Loc → Prop} {C N : Nat} (X : Stand p l e R (s.setVm vm0) m args below meth c T locs cells slots) (hS : s.Since vm0 k0) (hk : k0 ≤ T.heap.size) (hZ : Z.Warmed39 vm0) (hEL : EW Z a0 EL) (hr : CHr Z EL s.vm h0 vm0 T.heap) (hx : p.tables.exec = Jvm.exec) (hlk : meth.locks = false) {w : Value} {t : FieldType} (hret : meth.sig.returnType = some t) (ht : t.isReference = true) (hw : w.isRef = true) {pc : Nat} {Ls : Array Slot} {rest : List Value} (hd : decode c.code pc = .ok (.areturn, 1)) (hc : cells ≤ C) (hs : slots ≤ N) (hq : Q (some w) T.heap locs) :
    Goes p e below (LeavesW Z EL h0 s Q C N) T (mkF m pc Ls (w :: rest)) := Goes.retWW X hS hk hZ hEL hr hx hlk hret (by cases t <;> first | rfl | cases ht) (Or.inr (Or.inr (Or.inr (Or.inr ⟨rfl, ht, hw⟩)))) hd hc hs hq
theorem PaysW.walk {y : MethodName} {bytes : ByteArray} {maxL : Nat} {ret : Option FieldType} {ws : List Jvm.Cond} {rm : Room} {as : Array Value} {Q : Option Value → Heap → List Loc → Prop} {Ls : Array Slot}
    (hn : plainFor y = true) (hef : ∀ m, entryFrame m as maxL = mkF m 0 Ls [])
    (body : ∀ (p : Program) (e : Env) (s : State) (m : MethodId) (below : List Frame) (meth : Method) (c : Code) (T : State), Stand p l e rm (s.setVm s.vm) m as below meth c T [] 0 0 → p.tables.exec = Jvm.exec → c.code = bytes → c.maxLocals = maxL → (s.setVm s.vm).vm.findClass y.cls = some m.cls → meth.name = y.name → Z.Warmed39 (s.setVm s.vm).vm → T.heap = h0 → meth.sig.returnType = ret → meth.locks = false → s.Since s.vm 0 → CHr Z EL s.vm h0 s.vm h0 →
      Goes p e below (LeavesW Z EL h0 s Q rm.cells rm.slots) T (mkF m 0 Ls [])) : PaysW l Z EL y bytes maxL ret ws rm as h0 Q := by
  refine MetFree.of_bodySF hn hisR ?_
  intro p e s m args below meth c s₁ Bd hml0 hP hK
  obtain ⟨rfl, hZ, rfl, hC⟩ := hP
  have X0 : Stand p l e rm s m args below meth c s₁ [] 0 0 := Stand.of_body Bd
  obtain ⟨s₂, o, h1, h2⟩ := body p e s m below meth c s₁ X0 Bd.exec Bd.bytes hml0 (findClass_of_methodNamed Bd.named) (name_of_methodNamed Bd.named Bd.method).1 hZ (by rw [Bd.state]; rfl) Bd.returns Bd.notSynchronized ((State.WarmedH.refl s).since 0) (CHr.refl hC)
  exact ⟨s₂, o, castTop (hef m) h1, h2⟩
/-- the continuation behind a callee that may have interned -/
abbrev AfterW (p : Program) (l : Launch) (e : Env) (R : Room) (s : State) (m : MethodId) (args : Array Value) (below : List Frame) (meth : Method) (c : Code) (Z : State) (EL : List (String × Nat)) (own : String) (vm0 : Vm) (h : Heap) (Q : Option Value → Heap → List Loc → Prop) (locs : List Loc) (cells slots : Nat) (P : Outcome → State → Prop) (fr : Option Value → JFrame) : Prop :=
  ∀ v T' L k', Stand p l e R (s.setVm T'.vm) m args below meth c T' (locs ++ L) cells slots → s.Since T'.vm k' → k' ≤ T'.heap.size → Z.Warmed39 (s.setVm T'.vm).vm → (s.setVm T'.vm).vm.findClass own = some m.cls → CHr Z EL vm0 h T'.vm T'.heap → Q v T'.heap L → Goes p e below P T' (fr v)
theorem Goes.callSW (X : Stand p l e R (s.setVm vm0) m args below meth c T locs cells slots) (hx : p.tables.exec = Jvm.exec) (hZ : Z.Warmed39 (s.setVm vm0).vm) (hS : s.Since vm0 k0) (hk : k0 ≤ h.size) (hEL : EW Z a0 EL) (H : CHv Z EL vm0 h) {own : String} {index : Nat} {y : MethodName} {bytes : ByteArray} {maxL : Nat} {ret : Option FieldType} {rm : Room} {as' : Array Value} {Q : Option Value → Heap → List Loc → Prop} (W : Nat)
    (hown : (s.setVm vm0).vm.findClass own = some m.cls) (w1 : (Jvm.Cond.methodLink own index y).before a0 Z = true) (w2 : (Jvm.Cond.static y).before a0 Z = true) (w3 : (Jvm.Cond.initialized y.cls).before a0 Z = true) (w4 : (Jvm.Cond.code y bytes maxL ret).before a0 Z = true) (hy : y.cls ≠ "java/lang/invoke/MethodHandle" ∧ y.cls ≠ "java/lang/invoke/VarHandle")
    (eT : T.heap = h) (hM : PaysW l Z EL y bytes maxL ret [] rm as' h Q) (hf : rm.frames + 1 ≤ R.frames) (hl : W + (maxL + 11) + rm.locals ≤ R.locals) (hc : cells + rm.cells ≤ R.cells) (hs : slots + rm.slots ≤ R.slots)
    (hg : g.method = m) (hsize : g.locals.size = c.maxLocals) {argsL rest : List Value} (has : argsL.toArray = as') (hlen : ∀ sig, parseMethodDescriptor y.desc = some sig → argsL.length = sig.parameters.length) (hstack : g.stack = argsL.reverse ++ rest) (hW : 2 * g.monitorRoom + (rest.map fun v => v.category).sum ≤ W)
    (hd : decode c.code g.pc = .ok (.invokestatic index, 3))
    (k : AfterW p l e R s m args below meth c Z EL own vm0 h Q locs (cells + rm.cells) (slots + rm.slots) P (fun v => { g with pc := g.pc + 3, stack := v.toList ++ rest })) : Goes p e below P T g := by
  obtain ⟨v, _, ⟨T', L', k', n'⟩, -, X', hS', hgr, ⟨Lc, hQ, l', y', z', hC⟩, st⟩ := callSS X hx hown (mvT hZ w1) (mvT hZ w2) (mvT hZ w3) (mvT hZ w4) hy (backOfSH (s := s) (W := W) hM hZ w4 w3 hf hl hEL H) hg hsize (argsL := argsL) (rest := rest) hlen hstack hW hd (fun _ _ => ⟨has, eT, hc, hs⟩)
  dsimp only [Pt.U, Pt.locs, Pt.cells, Pt.slots] at X' l' y' z' st hQ hS' hgr hC
  subst l' y' z'
  obtain ⟨X2, hS2, hZ2, ho2⟩ := rebS hS (n1 := h.size) hk X' hS' (by rw [← eT]; exact hgr) hZ hown
  exact Goes.on (fun _ q => st.trans q) (k v T' Lc _ X2 hS2 (Nat.le_refl _) hZ2 ho2 hC hQ)
theorem Goes.callCW (X : Stand p l e R (s.setVm vm0) m args below meth c T locs cells slots) (hx : p.tables.exec = Jvm.exec) (hZ : Z.Warmed39 (s.setVm vm0).vm) (hS : s.Since vm0 k0) (hk : k0 ≤ h.size) (hEL : EW Z a0 EL) (H : CHv Z EL vm0 h) {own : String} {index : Nat} {y : MethodName} {bytes : ByteArray} {maxL : Nat} {rm : Room} {as' : Array Value} {Q : Option Value → Heap → List Loc → Prop} (W : Nat) (hy1 : y.name = "<init>")
    (hown : (s.setVm vm0).vm.findClass own = some m.cls) (w1 : (Jvm.Cond.methodLink own index y).before a0 Z = true) (w2 : (Jvm.Cond.instanceMethod y).before a0 Z = true) (w3 : (Jvm.Cond.initialized y.cls).before a0 Z = true) (w4 : (Jvm.Cond.code y bytes maxL none).before a0 Z = true) (hy : y.cls ≠ "java/lang/invoke/MethodHandle" ∧ y.cls ≠ "java/lang/invoke/VarHandle")
    (eT : T.heap = h) (hM : PaysW l Z EL y bytes maxL none [] rm as' h Q) (hf : rm.frames + 1 ≤ R.frames) (hl : W + (maxL + 11) + rm.locals ≤ R.locals) (hc : cells + rm.cells ≤ R.cells) (hs : slots + rm.slots ≤ R.slots)
    (hg : g.method = m) (hsize : g.locals.size = c.maxLocals) {a : Addr} {argsL rest : List Value} (has : (Value.ref a :: argsL).toArray = as') (hlen : ∀ sig, parseMethodDescriptor y.desc = some sig → argsL.length = sig.parameters.length) (hstack : g.stack = argsL.reverse ++ .ref a :: rest) (hW : 2 * g.monitorRoom + (rest.map fun v => v.category).sum ≤ W)
    (hd : decode c.code g.pc = .ok (.invokespecial index, 3))
    (k : AfterW p l e R s m args below meth c Z EL own vm0 h Q locs (cells + rm.cells) (slots + rm.slots) P (fun v => { g with pc := g.pc + 3, stack := v.toList ++ rest })) : Goes p e below P T g := by
  obtain ⟨v, _, ⟨T', L', k', n'⟩, -, X', hS', hgr, ⟨Lc, hQ, l', y', z', hC⟩, st⟩ := X.specialBackS hx (y := y) hy1 hown (mvT hZ w1) (mvT hZ w2) (mvT hZ w4) hy (backOfSH (s := s) (W := W) hM hZ w4 w3 hf hl hEL H) hg hsize (Steps.refl _) (a := a) (argsL := argsL) (rest := rest) hlen hstack hW hd (fun _ _ => ⟨has, eT, hc, hs⟩)
  dsimp only [Pt.U, Pt.locs, Pt.cells, Pt.slots] at X' l' y' z' st hQ hS' hgr hC
  subst l' y' z'
  obtain ⟨X2, hS2, hZ2, ho2⟩ := rebS hS (n1 := h.size) hk X' hS' (by rw [← eT]; exact hgr) hZ hown
  exact Goes.on (fun _ q => st.trans q) (k v T' Lc _ X2 hS2 (Nat.le_refl _) hZ2 ho2 hC hQ)
theorem Goes.callVW (X : Stand p l e R (s.setVm vm0) m args below meth c T locs cells slots) (hx : p.tables.exec = Jvm.exec) (hZ : Z.Warmed39 (s.setVm vm0).vm) (hS : s.Since vm0 k0) (hk : k0 ≤ h.size) (hEL : EW Z a0 EL) (H : CHv Z EL vm0 h) {own C : String} {index : Nat} {y z : MethodName} {bytes : ByteArray} {maxL : Nat} {ret : Option FieldType} {rm : Room} {as' : Array Value} {Q : Option Value → Heap → List Loc → Prop} (W : Nat)
    (hown : (s.setVm vm0).vm.findClass own = some m.cls) (w1 : (Jvm.Cond.methodLink own index y).before a0 Z = true) (w2 : (Jvm.Cond.declares y).before a0 Z = true) (hnf : NotFace (s.setVm vm0) y) (w5 : (Jvm.Cond.selects C y z).before a0 Z = true) (w6 : (Jvm.Cond.instanceMethod z).before a0 Z = true) (w3 : (Jvm.Cond.initialized z.cls).before a0 Z = true) (w4 : (Jvm.Cond.code z bytes maxL ret).before a0 Z = true) (hy : y.cls ≠ "java/lang/invoke/MethodHandle" ∧ y.cls ≠ "java/lang/invoke/VarHandle")
    (eT : T.heap = h) {a : Addr} (E : Exa Z h a C) (hM : PaysW l Z EL z bytes maxL ret [] rm as' h Q) (hf : rm.frames + 1 ≤ R.frames) (hl : W + (maxL + 11) + rm.locals ≤ R.locals) (hc : cells + rm.cells ≤ R.cells) (hs : slots + rm.slots ≤ R.slots)
    (hg : g.method = m) (hsize : g.locals.size = c.maxLocals) {argsL rest : List Value} (has : (Value.ref a :: argsL).toArray = as') (hlen : ∀ sig, parseMethodDescriptor y.desc = some sig → argsL.length = sig.parameters.length) (hstack : g.stack = argsL.reverse ++ .ref a :: rest) (hW : 2 * g.monitorRoom + (rest.map fun v => v.category).sum ≤ W)
    (hd : decode c.code g.pc = .ok (.invokevirtual index, 3))
    (k : AfterW p l e R s m args below meth c Z EL own vm0 h Q locs (cells + rm.cells) (slots + rm.slots) P (fun v => { g with pc := g.pc + 3, stack := v.toList ++ rest })) : Goes p e below P T g := by
  obtain ⟨cq, kq, qa, qb, qc⟩ := isOf hZ eT E
  obtain ⟨v, _, ⟨T', L', k', n'⟩, -, X', hS', hgr, ⟨Lc, hQ, l', y', z', hC⟩, st⟩ := X.virtualBackS hx (y := y) (z := z) hown (mvT hZ w1) (mvT hZ w2) hnf (mvT hZ w5) (mvT hZ w6) hy (backOfSH (s := s) (W := W) hM hZ w4 w3 hf hl hEL H) qa qc hg hsize (Steps.refl _) (argsL := argsL) (rest := rest) hlen hstack hW hd (fun _ _ => ⟨has, eT, hc, hs⟩)
  dsimp only [Pt.U, Pt.locs, Pt.cells, Pt.slots] at X' l' y' z' st hQ hS' hgr hC
  subst l' y' z'
  obtain ⟨X2, hS2, hZ2, ho2⟩ := rebS hS (n1 := h.size) hk X' hS' (by rw [← eT]; exact hgr) hZ hown
  exact Goes.on (fun _ q => st.trans q) (k v T' Lc _ X2 hS2 (Nat.le_refl _) hZ2 ho2 hC hQ)
end StepsW
end Jvm.Own
namespace Jvm.Pilot.@@N@@
open Jvm Jvm.ClassFile Sem Op Lib Jvm.Free Jvm.Stand Jvm.LawKit Jvm.RoadKit Bundle Jvm.Own Jvm.Pilot.@@N@@.Jvm.D
theorem own_w {Z : State} {a0 : Array Value} (hw : ∀ d ∈ tables_1, d.before a0 Z = true) (i : Nat) {d : Jvm.Cond} (h : tables_1[i]? = some d) : d.before a0 Z = true := hw d (List.mem_of_getElem? h)
theorem own_wS {Z : State} {a0 : Array Value} (hw : ∀ d ∈ tables_1, d.before a0 Z = true) : ∀ d ∈ Bundle.stringAtoms, d.before a0 Z = true := by
  intro d hd
  simp only [Bundle.stringAtoms, List.mem_cons, List.not_mem_nil, or_false] at hd
  rcases hd with rfl | rfl | rfl | rfl | rfl | rfl | rfl
  · exact own_w hw 13 rfl
  · exact own_w hw 12 rfl
  · exact own_w hw 29 rfl
  · exact own_w hw 39 rfl
  · exact own_w hw 37 rfl
  · exact own_w hw 50 rfl
  · exact own_w hw 51 rfl
theorem own_EW {Z : State} {a0 : Array Value} (hw : ∀ d ∈ tables_1, d.before a0 Z = true) : EW Z a0 consts_1 := (EW.cons (own_w hw 49 rfl) (by decide) (EW.cons (own_w hw 62 rfl) (by decide) EW.nil))
theorem own_hnew {Z : State} {a0 : Array Value} (hw : ∀ d ∈ tables_1, d.before a0 Z = true) : ∀ d ∈ StrChars.Road.words, d.before a0 Z = true := by
  intro d hd
  simp only [StrChars.Road.words, List.mem_cons, List.not_mem_nil, or_false] at hd
  rcases hd with rfl | rfl | rfl | rfl | rfl | rfl | rfl | rfl | rfl | rfl | rfl | rfl | rfl | rfl | rfl | rfl | rfl | rfl | rfl | rfl | rfl | rfl | rfl | rfl
  · exact hw _ (List.mem_of_getElem? (i := 16) rfl)
  · exact hw _ (List.mem_of_getElem? (i := 13) rfl)
  · exact hw _ (List.mem_of_getElem? (i := 17) rfl)
  · exact hw _ (List.mem_of_getElem? (i := 18) rfl)
  · exact hw _ (List.mem_of_getElem? (i := 20) rfl)
  · exact hw _ (List.mem_of_getElem? (i := 24) rfl)
  · exact hw _ (List.mem_of_getElem? (i := 39) rfl)
  · exact hw _ (List.mem_of_getElem? (i := 38) rfl)
  · exact hw _ (List.mem_of_getElem? (i := 37) rfl)
  · exact hw _ (List.mem_of_getElem? (i := 36) rfl)
  · exact hw _ (List.mem_of_getElem? (i := 21) rfl)
  · exact hw _ (List.mem_of_getElem? (i := 22) rfl)
  · exact hw _ (List.mem_of_getElem? (i := 23) rfl)
  · exact hw _ (List.mem_of_getElem? (i := 25) rfl)
  · exact hw _ (List.mem_of_getElem? (i := 26) rfl)
  · exact hw _ (List.mem_of_getElem? (i := 33) rfl)
  · exact hw _ (List.mem_of_getElem? (i := 34) rfl)
  · exact hw _ (List.mem_of_getElem? (i := 28) rfl)
  · exact hw _ (List.mem_of_getElem? (i := 27) rfl)
  · exact hw _ (List.mem_of_getElem? (i := 29) rfl)
  · exact hw _ (List.mem_of_getElem? (i := 30) rfl)
  · exact hw _ (List.mem_of_getElem? (i := 31) rfl)
  · exact hw _ (List.mem_of_getElem? (i := 32) rfl)
  · exact hw _ (List.mem_of_getElem? (i := 35) rfl)
theorem own_lt1 {P : Nat → Prop} (h0 : P 0) : ∀ i, i < 1 → P i := by
  intro i hi
  obtain rfl : i = 0 := by omega
  exact h0
theorem own_lt2 {P : Nat → Prop} (h0 : P 0) (h1 : P 1) : ∀ i, i < 2 → P i := by
  intro i hi
  by_cases q : i = 0
  · subst q; exact h0
  · obtain rfl : i = 1 := by omega
    exact h1
theorem own_is1 {z : Int32} {p : Prop} (hP : z = 1 ↔ p) (h : p) : some (Value.int 1) = some (Value.int z) := by rw [hP.mpr h]
theorem own_is0 {z : Int32} {p : Prop} (hz : z = 0 ∨ z = 1) (hP : z = 1 ↔ p) (h : ¬ p) : some (Value.int 0) = some (Value.int z) := by
  rcases hz with q | q
  · rw [q]
  · exact absurd (hP.mp q) h
theorem own_nz {z : Int32} (hz : z = 0 ∨ z = 1) (h : ¬ z = 0) : some (Value.int 1) = some (Value.int z) := by
  rcases hz with q | q
  · exact absurd q h
  · rw [q]
theorem own_z {z : Int32} (h : z = 0) : some (Value.int 0) = some (Value.int z) := by rw [h]
theorem own_T {p : Prop} (h : p) : (1 : Int32) = 1 ↔ p := ⟨fun _ => h, fun _ => rfl⟩
theorem own_F {p : Prop} (h : ¬ p) : (0 : Int32) = 1 ↔ p := ⟨fun q => absurd q (by decide), fun q => absurd q h⟩
theorem own_s1 {u v : Int32} (h : ∀ i, i < 1 → [Value.int u].getD i (.int 0) = [Value.int v].getD i (.int 0)) : u = v := Value.int.inj (h 0 (by decide))
theorem own_s2 {u0 u1 v0 v1 : Int32} (h : ∀ i, i < 2 → [Value.int u0, Value.int u1].getD i (.int 0) = [Value.int v0, Value.int v1].getD i (.int 0)) : u0 = v0 ∧ u1 = v1 := ⟨Value.int.inj (h 0 (by decide)), Value.int.inj (h 1 (by decide))⟩
theorem own_inj {c d : Int32} (hc : ¬ c < 0 ∧ ¬ (255 : Int32) < c) (hd : ¬ d < 0 ∧ ¬ (255 : Int32) < d) (h : c.toInt8.toInt32 = d.toInt8.toInt32) : c = d := by
  have h' := congrArg Int32.toInt h
  rw [Int8.toInt_toInt32, Int8.toInt_toInt32, Int32.toInt_toInt8, Int32.toInt_toInt8, Int.bmod_def, Int.bmod_def] at h'
  have k : (255 : Int32).toInt = 255 := rfl
  have k0 : (0 : Int32).toInt = 0 := rfl
  simp only [Int32.lt_iff_toInt_lt, k, k0] at hc hd
  apply Int32.toInt_inj.mp
  split at h' <;> split at h' <;> omega
theorem own_fitN {c : Int32} (h : nar .char c = c) : fits .char (.int c) = true := by
  have := fits_nar_char c
  rwa [h] at this
theorem own_same {Z : State} {h : Heap} {r b r' b' : Addr} {k k' : ClassId} {N N' : Int32} {vs vs' : List Value} (F : Str Z h r b k N vs) (G : Str Z h r' b' k' N' vs') (e : r = r') {n : Nat} (hn : N.toNatClampNeg = n) : N'.toNatClampNeg = n ∧ ∀ i, i < n → vs.getD i (.int 0) = vs'.getD i (.int 0) := by
  subst e
  by_cases q : b = b'
  · subst q
    obtain ⟨c, A, -, S, -, H, -⟩ := F.2.2.2
    obtain ⟨c', A', -, S', -, H', -⟩ := G.2.2.2
    cases A.1.symm.trans A'.1
    exact ⟨by omega, fun i hi => Option.some.inj ((H i (by omega)).symm.trans (H' i (by omega)))⟩
  · exact absurd rfl (Fld.ne F.2.2.1 G.2.2.1 (fun z => q (Value.ref.inj z)))
theorem d1_0 : decode method_2_code 0 = .ok (.iload_n 0, 1) := by decide +kernel
theorem d1_1 : decode method_2_code 1 = .ok (.sipush 255, 3) := by decide +kernel
theorem d1_4 : decode method_2_code 4 = .ok (.iand, 1) := by decide +kernel
theorem d1_5 : decode method_2_code 5 = .ok (.i2c, 1) := by decide +kernel
theorem d1_6 : decode method_2_code 6 = .ok (.istore_n 1, 1) := by decide +kernel
theorem d1_7 : decode method_2_code 7 = .ok (.iload_n 1, 1) := by decide +kernel
theorem d1_8 : decode method_2_code 8 = .ok (.ifCond .eq 9, 3) := by decide +kernel
theorem d1_17 : decode method_2_code 17 = .ok (.bipush 97, 2) := by decide +kernel
theorem d1_19 : decode method_2_code 19 = .ok (.ireturn, 1) := by decide +kernel
theorem d1_11 : decode method_2_code 11 = .ok (.iload_n 1, 1) := by decide +kernel
theorem d1_12 : decode method_2_code 12 = .ok (.bipush 47, 2) := by decide +kernel
theorem d1_14 : decode method_2_code 14 = .ok (.if_icmp .ne 6, 3) := by decide +kernel
theorem d1_20 : decode method_2_code 20 = .ok (.iload_n 1, 1) := by decide +kernel
theorem d1_21 : decode method_2_code 21 = .ok (.ireturn, 1) := by decide +kernel
theorem ef_0 (m : MethodId) (x0 : Int32) : entryFrame m #[(.int x0)] 2 = mkF m 0 #[.val (.int x0), .unset] [] := by first | (simp [entryFrame, mkF, argsToLocals, Value.category]; done) | rfl
theorem pn_0 : plainName "com/example/narada/narada/TransferEqualsPinLaw" = true := by first | (simp [plainName, overriddenIn]; done) | decide +kernel
def Fch (x0 : Int32) : Int32 := (if (x0 &&& (255 : Int32)).toUInt32.toUInt16.toUInt32.toInt32 = (0 : Int32) then (97 : Int32) else (if (x0 &&& (255 : Int32)).toUInt32.toUInt16.toUInt32.toInt32 = (47 : Int32) then (97 : Int32) else (x0 &&& (255 : Int32)).toUInt32.toUInt16.toUInt32.toInt32))
set_option maxRecDepth 65536 in
set_option maxHeartbeats 40000000 in
theorem rmch (l : Launch) (Z : State) (a0 : Array Value) (hw : ∀ d ∈ tables_1, d.before a0 Z = true) (x0 : Int32) (h0 : Heap) (n0 : Nat) (Z0 : n0 ≤ h0.size) :
    Pays l Z (⟨"com/example/narada/narada/TransferEqualsPinLaw", "ch", "(I)C"⟩ : MethodName) method_2_code 2 (some .char) [] ({ frames := 0, cells := 0, slots := 0, locals := 0 } : Room) #[(.int x0)] h0 (fun v h L => v = some (.int (Fch x0)) ∧ Fr n0 L ∧ h = h0) := by
  refine Pays.walk (plainFor_of_name pn_0) (fun m => ef_0 m x0 ) ?_
  intro p e s m below meth c T0 X0 hx hby hml hown hnm hZ e0 hret hlk
  have N0 := Fr.nil n0
  refine Goes.on (T' := T0) (g' := (mkF m 8 #[.val (.int x0), .val (.int ((x0 &&& (255 : Int32)).toUInt32.toUInt16.toUInt32.toInt32))] [(.int ((x0 &&& (255 : Int32)).toUInt32.toUInt16.toUInt32.toInt32))])) (fun _ k => XS.iloadN X0.here hx rfl (hb hby d1_0) rfl (XS.sipush X0.here hx rfl (hb hby d1_1) (XS.iand X0.here hx rfl (hb hby d1_4) rfl (XS.i2c X0.here hx rfl (hb hby d1_5) rfl (XS.istoreN X0.here hx rfl (hb hby d1_6) rfl (l' := #[.val (.int x0), .val (.int ((x0 &&& (255 : Int32)).toUInt32.toUInt16.toUInt32.toInt32))]) rfl (XS.iloadN X0.here hx rfl (hb hby d1_7) rfl k)))))) ?_
  by_cases hc1 : (x0 &&& (255 : Int32)).toUInt32.toUInt16.toUInt32.toInt32 = (0 : Int32)
  · refine Goes.on (T' := T0) (g' := (mkF m 19 #[.val (.int x0), .val (.int ((x0 &&& (255 : Int32)).toUInt32.toUInt16.toUInt32.toInt32))] [(.int (97 : Int32))])) (fun _ k => XS.ifYes X0.here hx rfl (pc0 := 8) (pc' := 17) rfl (hb hby d1_8) rfl (XT.i0_eq_t hc1) (by decide) (by decide) (XS.bipush X0.here hx rfl (hb hby d1_17) k)) ?_
    exact Goes.retC X0 hx hlk hret rfl (hb hby d1_19) (by decide) (by decide) ⟨(by unfold Fch; rw [if_pos hc1]), N0, e0⟩
  · refine Goes.on (T' := T0) (g' := (mkF m 14 #[.val (.int x0), .val (.int ((x0 &&& (255 : Int32)).toUInt32.toUInt16.toUInt32.toInt32))] [(.int (47 : Int32)), (.int ((x0 &&& (255 : Int32)).toUInt32.toUInt16.toUInt32.toInt32))])) (fun _ k => XS.ifNo X0.here hx rfl (hb hby d1_8) rfl (XT.i0_eq_f hc1) (XS.iloadN X0.here hx rfl (hb hby d1_11) rfl (XS.bipush X0.here hx rfl (hb hby d1_12) k))) ?_
    by_cases hc2 : (x0 &&& (255 : Int32)).toUInt32.toUInt16.toUInt32.toInt32 = (47 : Int32)
    · refine Goes.on (T' := T0) (g' := (mkF m 19 #[.val (.int x0), .val (.int ((x0 &&& (255 : Int32)).toUInt32.toUInt16.toUInt32.toInt32))] [(.int (97 : Int32))])) (fun _ k => XS.icmpNo X0.here hx rfl (hb hby d1_14) rfl (XT.ii_ne_f hc2) (XS.bipush X0.here hx rfl (hb hby d1_17) k)) ?_
      exact Goes.retC X0 hx hlk hret rfl (hb hby d1_19) (by decide) (by decide) ⟨(by unfold Fch; rw [if_neg hc1, if_pos hc2]), N0, e0⟩
    · refine Goes.on (T' := T0) (g' := (mkF m 21 #[.val (.int x0), .val (.int ((x0 &&& (255 : Int32)).toUInt32.toUInt16.toUInt32.toInt32))] [(.int ((x0 &&& (255 : Int32)).toUInt32.toUInt16.toUInt32.toInt32))])) (fun _ k => XS.icmpYes X0.here hx rfl (pc0 := 14) (pc' := 20) rfl (hb hby d1_14) rfl (XT.ii_ne_t hc2) (by decide) (by decide) (XS.iloadN X0.here hx rfl (hb hby d1_20) rfl k)) ?_
      exact Goes.retC X0 hx hlk hret (narC _) (hb hby d1_21) (by decide) (by decide) ⟨(by unfold Fch; rw [if_neg hc1, if_neg hc2]), N0, e0⟩
def own_CH (c : Int32) : Prop := nar .char c = c ∧ (¬ c < 0 ∧ ¬ (255 : Int32) < c) ∧ ¬ c = 0 ∧ ¬ c = 47
theorem own_ch (x : Int32) : own_CH (Fch x) := by
  have hb : ¬ (x &&& (255 : Int32)).toUInt32.toUInt16.toUInt32.toInt32 < 0 ∧ ¬ (255 : Int32) < (x &&& (255 : Int32)).toUInt32.toUInt16.toUInt32.toInt32 := by
    rw [i2c_mask, Int32.lt_iff_toInt_lt, Int32.lt_iff_toInt_lt, c_mask x (255 : Int32) 8 (by decide) (by decide)]
    have k : (255 : Int32).toInt = 255 := rfl
    have k0 : (0 : Int32).toInt = 0 := rfl
    omega
  unfold Fch
  split
  · exact ⟨rfl, by decide, by decide, by decide⟩
  · split
    · exact ⟨rfl, by decide, by decide, by decide⟩
    · rename_i h1 h2
      exact ⟨narC _, hb, h1, h2⟩
theorem d2_0 : decode method_3_code 0 = .ok (.iload_n 1, 1) := by decide +kernel
theorem pd_0 : parseMethodDescriptor "(I)C" = some ⟨[.int], some .char⟩ := by decide +kernel
theorem d2_1 : decode method_3_code 1 = .ok (.invokestatic 7, 3) := by decide +kernel
theorem d2_4 : decode method_3_code 4 = .ok (.istore_n 2, 1) := by decide +kernel
theorem d2_5 : decode method_3_code 5 = .ok (.iload_n 0, 1) := by decide +kernel
theorem d2_6 : decode method_3_code 6 = .ok (.bipush 46, 2) := by decide +kernel
theorem d2_8 : decode method_3_code 8 = .ok (.if_icmp .ne 12, 3) := by decide +kernel
theorem d2_11 : decode method_3_code 11 = .ok (.iload_n 2, 1) := by decide +kernel
theorem d2_12 : decode method_3_code 12 = .ok (.bipush 46, 2) := by decide +kernel
theorem d2_14 : decode method_3_code 14 = .ok (.if_icmp .ne 6, 3) := by decide +kernel
theorem d2_17 : decode method_3_code 17 = .ok (.bipush 98, 2) := by decide +kernel
theorem d2_19 : decode method_3_code 19 = .ok (.ireturn, 1) := by decide +kernel
theorem d2_20 : decode method_3_code 20 = .ok (.iload_n 2, 1) := by decide +kernel
theorem d2_21 : decode method_3_code 21 = .ok (.ireturn, 1) := by decide +kernel
theorem ef_1 (m : MethodId) (x0 : Int32) (x1 : Int32) : entryFrame m #[(.int x0), (.int x1)] 3 = mkF m 0 #[.val (.int x0), .val (.int x1), .unset] [] := by first | (simp [entryFrame, mkF, argsToLocals, Value.category]; done) | rfl
def Fsec (x0 : Int32) (x1 : Int32) : Int32 := (if x0 = (46 : Int32) then (if (Fch x1) = (46 : Int32) then (98 : Int32) else (Fch x1)) else (Fch x1))
set_option maxRecDepth 65536 in
set_option maxHeartbeats 40000000 in
theorem rmsec (l : Launch) (Z : State) (a0 : Array Value) (hw : ∀ d ∈ tables_1, d.before a0 Z = true) (x0 : Int32) (x1 : Int32) (h0 : Heap) (n0 : Nat) (Z0 : n0 ≤ h0.size) :
    Pays l Z (⟨"com/example/narada/narada/TransferEqualsPinLaw", "second", "(CI)C"⟩ : MethodName) method_3_code 3 (some .char) [] ({ frames := 1, cells := 0, slots := 0, locals := 13 } : Room) #[(.int x0), (.int x1)] h0 (fun v h L => v = some (.int (Fsec x0 x1)) ∧ Fr n0 L ∧ h = h0) := by
  refine Pays.walk (plainFor_of_name pn_0) (fun m => ef_1 m x0 x1 ) ?_
  intro p e s m below meth c T0 X0 hx hby hml hown hnm hZ e0 hret hlk
  have N0 := Fr.nil n0
  refine Goes.on (T' := T0) (g' := (mkF m 1 #[.val (.int x0), .val (.int x1), .unset] [(.int x1)])) (fun _ k => XS.iloadN X0.here hx rfl (hb hby d2_0) rfl k) ?_
  refine Goes.callS X0 hx hZ 0 hown (own_w hw 0 rfl) (own_w hw 1 rfl) (own_w hw 2 rfl) (own_w hw 3 rfl) (by decide) e0 (rmch l Z a0 hw x1 h0 n0 Z0) (by decide) (by decide) (by decide) (by decide) rfl (by rw [hml]; rfl) (argsL := [(.int x1)]) (rest := []) rfl (lenOf pd_0 rfl) rfl (by show 2 * 0 + _ ≤ _; exact Nat.le_of_eq rfl) (hb hby d2_1) ?_
  intro v1 T1 L1 X1 hQ1
  obtain ⟨rfl, N1q, e1⟩ := hQ1
  have N1 := Fr.app N0 N1q
  show Goes p e below _ T1 (mkF m 4 #[.val (.int x0), .val (.int x1), .unset] [(.int (Fch x1))])
  refine Goes.on (T' := T1) (g' := (mkF m 8 #[.val (.int x0), .val (.int x1), .val (.int (Fch x1))] [(.int (46 : Int32)), (.int x0)])) (fun _ k => XS.istoreN X1.here hx rfl (hb hby d2_4) rfl (l' := #[.val (.int x0), .val (.int x1), .val (.int (Fch x1))]) rfl (XS.iloadN X1.here hx rfl (hb hby d2_5) rfl (XS.bipush X1.here hx rfl (hb hby d2_6) k))) ?_
  by_cases hc2 : x0 = (46 : Int32)
  · refine Goes.on (T' := T1) (g' := (mkF m 14 #[.val (.int x0), .val (.int x1), .val (.int (Fch x1))] [(.int (46 : Int32)), (.int (Fch x1))])) (fun _ k => XS.icmpNo X1.here hx rfl (hb hby d2_8) rfl (XT.ii_ne_f hc2) (XS.iloadN X1.here hx rfl (hb hby d2_11) rfl (XS.bipush X1.here hx rfl (hb hby d2_12) k))) ?_
    by_cases hc3 : (Fch x1) = (46 : Int32)
    · refine Goes.on (T' := T1) (g' := (mkF m 19 #[.val (.int x0), .val (.int x1), .val (.int (Fch x1))] [(.int (98 : Int32))])) (fun _ k => XS.icmpNo X1.here hx rfl (hb hby d2_14) rfl (XT.ii_ne_f hc3) (XS.bipush X1.here hx rfl (hb hby d2_17) k)) ?_
      exact Goes.retC X1 hx hlk hret rfl (hb hby d2_19) (by decide) (by decide) ⟨(by unfold Fsec; rw [if_pos hc2, if_pos hc3]), N1, e1⟩
    · refine Goes.on (T' := T1) (g' := (mkF m 21 #[.val (.int x0), .val (.int x1), .val (.int (Fch x1))] [(.int (Fch x1))])) (fun _ k => XS.icmpYes X1.here hx rfl (pc0 := 14) (pc' := 20) rfl (hb hby d2_14) rfl (XT.ii_ne_t hc3) (by decide) (by decide) (XS.iloadN X1.here hx rfl (hb hby d2_20) rfl k)) ?_
      exact Goes.retC X1 hx hlk hret (own_ch x1).1 (hb hby d2_21) (by decide) (by decide) ⟨(by unfold Fsec; rw [if_pos hc2, if_neg hc3]), N1, e1⟩
  · refine Goes.on (T' := T1) (g' := (mkF m 21 #[.val (.int x0), .val (.int x1), .val (.int (Fch x1))] [(.int (Fch x1))])) (fun _ k => XS.icmpYes X1.here hx rfl (pc0 := 8) (pc' := 20) rfl (hb hby d2_8) rfl (XT.ii_ne_t hc2) (by decide) (by decide) (XS.iloadN X1.here hx rfl (hb hby d2_20) rfl k)) ?_
    exact Goes.retC X1 hx hlk hret (own_ch x1).1 (hb hby d2_21) (by decide) (by decide) ⟨(by unfold Fsec; rw [if_neg hc2]), N1, e1⟩
theorem own_sec (f x : Int32) : own_CH (Fsec f x) ∧ ¬ (f = 46 ∧ Fsec f x = 46) := by
  have hc := own_ch x
  unfold Fsec
  split
  · split
    · exact ⟨⟨rfl, by decide, by decide, by decide⟩, fun q => absurd q.2 (by decide)⟩
    · rename_i h1 h2
      exact ⟨hc, fun q => h2 q.2⟩
  · rename_i h1
    exact ⟨hc, fun q => h1 q.1⟩
theorem own_b46 {c : Int32} (hc : own_CH c) (h : c.toInt8.toInt32 = (46 : Int32)) : c = 46 := own_inj hc.2.1 (by decide) (h.trans (by decide))
theorem own_b47 {c : Int32} (hc : own_CH c) : ¬ c.toInt8.toInt32 = (47 : Int32).toInt8.toInt32 := fun h => hc.2.2.2 (own_inj hc.2.1 (by decide) h)
theorem own_b0 {c : Int32} (hc : own_CH c) : ¬ c.toInt8.toInt32 = (0 : Int32).toInt8.toInt32 := fun h => hc.2.2.1 (own_inj hc.2.1 (by decide) h)
theorem own_two {P : Int32 → Prop} {a b : Int32} (ha : P a) (hb : P b) : ∀ c ∈ [a, b], P c := by
  intro c hc
  rcases List.mem_cons.mp hc with rfl | hc
  · exact ha
  · rcases List.mem_cons.mp hc with rfl | hc
    · exact hb
    · cases hc
theorem d10_0 : decode jdk_42_method_55_code 0 = .ok (.aload_n 0, 1) := by decide +kernel
theorem d10_1 : decode jdk_42_method_55_code 1 = .ok (.getfield 9, 3) := by decide +kernel
theorem d10_4 : decode jdk_42_method_55_code 4 = .ok (.arraylength, 1) := by decide +kernel
theorem d10_5 : decode jdk_42_method_55_code 5 = .ok (.ifCond .ne 7, 3) := by decide +kernel
theorem d10_12 : decode jdk_42_method_55_code 12 = .ok (.iconst 0, 1) := by decide +kernel
theorem d10_13 : decode jdk_42_method_55_code 13 = .ok (.ireturn, 1) := by decide +kernel
theorem ef_2 (m : MethodId) (x0 : Addr) : entryFrame m #[(.ref x0)] 1 = mkF m 0 #[.val (.ref x0)] [] := by first | (simp [entryFrame, mkF, argsToLocals, Value.category]; done) | rfl
theorem pn_1 : plainName "java/lang/String" = true := by first | (simp [plainName, overriddenIn]; done) | decide +kernel
set_option maxRecDepth 65536 in
set_option maxHeartbeats 40000000 in
theorem rmEm_2 (l : Launch) (Z : State) (a0 : Array Value) (hw : ∀ d ∈ tables_1, d.before a0 Z = true) (a : Addr) (u0 u1 : Int32)  (h0 : Heap) (n0 : Nat) (Z0 : n0 ≤ h0.size) (O0 : Old Z n0 h0) (cs : Int32) (SC : Sta Z Z.heap "java/lang/String" "COMPACT_STRINGS" "Z" (.int cs)) (hcs : ¬ cs = (0 : Int32)) (ya : Addr) (ka : ClassId) (PA : Str Z h0 a ya ka (Int32.ofNat 2) [Value.int u0, Value.int u1]) :
    Pays l Z (⟨"java/lang/String", "isEmpty", "()Z"⟩ : MethodName) jdk_42_method_55_code 1 (some .boolean) [] ({ frames := 0, cells := 0, slots := 0, locals := 0 } : Room) #[(.ref a)] h0 (fun v h L => v = some (.int (0 : Int32)) ∧ Fr n0 L ∧ h = h0) := by
  refine Pays.walk (plainFor_of_name pn_1) (fun m => ef_2 m a ) ?_
  intro p e s m below meth c T0 X0 hx hby hml hown hnm hZ e0 hret hlk
  have N0 := Fr.nil n0
  have BA : Arf Z h0 ya .byte Value.int 2 (fun i => ([u0, u1] : List Int32).getD i 0) := Arv.arf PA.2.2.2 (by decide) (own_lt2 rfl rfl)
  refine Goes.on (T' := T0) (g' := (mkF m 1 #[.val (.ref a)] [(.ref a)])) (fun _ k => XS.aloadN X0.here hx rfl (hb hby d10_0) rfl rfl k) ?_
  obtain ⟨T1, X1, e1, st1⟩ := getF X0 hx hZ hown (host := "") (Or.inl (own_w hw 38 rfl)) Via.refl e0 PA.2.2.1 (g := (mkF m 1 #[.val (.ref a)] [(.ref a)])) rfl rfl (hb hby d10_1)
  refine Goes.on (T' := T1) (g' := (mkF m 13 #[.val (.ref a)] [(.int (0 : Int32))])) (fun _ k => st1 _ (aLenm X1 hx hZ e1 BA (hb hby d10_4) (XS.ifYes X1.here hx rfl (pc0 := 5) (pc' := 12) rfl (hb hby d10_5) rfl (XT.i0_ne_t (by decide)) (by decide) (by decide) (XS.iconst X1.here hx rfl (hb hby d10_12) k)))) ?_
  exact Goes.retB X1 hx hlk hret (Or.inl rfl) (hb hby d10_13) (by decide) (by decide) ⟨rfl, N0, e1⟩
theorem d17_0 : decode jdk_42_method_152_code 0 = .ok (.getstatic 38, 3) := by decide +kernel
theorem d17_3 : decode jdk_42_method_152_code 3 = .ok (.ifCond .eq 10, 3) := by decide +kernel
theorem d17_6 : decode jdk_42_method_152_code 6 = .ok (.aload_n 0, 1) := by decide +kernel
theorem d17_7 : decode jdk_42_method_152_code 7 = .ok (.getfield 15, 3) := by decide +kernel
theorem d17_10 : decode jdk_42_method_152_code 10 = .ok (.goto 4, 3) := by decide +kernel
theorem d17_14 : decode jdk_42_method_152_code 14 = .ok (.ireturn, 1) := by decide +kernel
set_option maxRecDepth 65536 in
set_option maxHeartbeats 40000000 in
theorem rmCo_2 (l : Launch) (Z : State) (a0 : Array Value) (hw : ∀ d ∈ tables_1, d.before a0 Z = true) (a : Addr) (u0 u1 : Int32)  (h0 : Heap) (n0 : Nat) (Z0 : n0 ≤ h0.size) (O0 : Old Z n0 h0) (cs : Int32) (SC : Sta Z Z.heap "java/lang/String" "COMPACT_STRINGS" "Z" (.int cs)) (hcs : ¬ cs = (0 : Int32)) (ya : Addr) (ka : ClassId) (PA : Str Z h0 a ya ka (Int32.ofNat 2) [Value.int u0, Value.int u1]) :
    Pays l Z (⟨"java/lang/String", "coder", "()B"⟩ : MethodName) jdk_42_method_152_code 1 (some .byte) [] ({ frames := 0, cells := 0, slots := 0, locals := 0 } : Room) #[(.ref a)] h0 (fun v h L => v = some (.int (0 : Int32)) ∧ Fr n0 L ∧ h = h0) := by
  refine Pays.walk (plainFor_of_name pn_1) (fun m => ef_2 m a ) ?_
  intro p e s m below meth c T0 X0 hx hby hml hown hnm hZ e0 hret hlk
  have N0 := Fr.nil n0
  have BA : Arf Z h0 ya .byte Value.int 2 (fun i => ([u0, u1] : List Int32).getD i 0) := Arv.arf PA.2.2.2 (by decide) (own_lt2 rfl rfl)
  obtain ⟨T1, X1, e1, st1⟩ := getS (host := "") X0 hx hZ hown (own_w hw 24 rfl) Via.refl e0 (Sta.ext O0.2 SC) (g := (mkF m 0 #[.val (.ref a)] [])) rfl (hb hby d17_0)
  refine Goes.on (T' := T1) (g' := (mkF m 7 #[.val (.ref a)] [(.ref a)])) (fun _ k => st1 _ (XS.ifNo X1.here hx rfl (hb hby d17_3) rfl (XT.i0_eq_f hcs) (XS.aloadN X1.here hx rfl (hb hby d17_6) rfl rfl k))) ?_
  obtain ⟨T2, X2, e2, st2⟩ := getF X1 hx hZ hown (host := "") (Or.inl (own_w hw 36 rfl)) Via.refl e1 PA.2.1 (g := (mkF m 7 #[.val (.ref a)] [(.ref a)])) rfl rfl (hb hby d17_7)
  refine Goes.on (T' := T2) (g' := (mkF m 14 #[.val (.ref a)] [(.int (0 : Int32))])) (fun _ k => st2 _ (XS.goto X2.here hx rfl (pc0 := 10) (pc' := 14) rfl (hb hby d17_10) (by decide) (by decide) k)) ?_
  exact Goes.retY X2 hx hlk hret rfl (hb hby d17_14) (by decide) (by decide) ⟨rfl, N0, e2⟩
theorem d15_0 : decode jdk_42_method_154_code 0 = .ok (.getstatic 38, 3) := by decide +kernel
theorem d15_3 : decode jdk_42_method_154_code 3 = .ok (.ifCond .eq 14, 3) := by decide +kernel
theorem d15_6 : decode jdk_42_method_154_code 6 = .ok (.aload_n 0, 1) := by decide +kernel
theorem d15_7 : decode jdk_42_method_154_code 7 = .ok (.getfield 15, 3) := by decide +kernel
theorem d15_10 : decode jdk_42_method_154_code 10 = .ok (.ifCond .ne 7, 3) := by decide +kernel
theorem d15_13 : decode jdk_42_method_154_code 13 = .ok (.iconst 1, 1) := by decide +kernel
theorem d15_14 : decode jdk_42_method_154_code 14 = .ok (.goto 4, 3) := by decide +kernel
theorem d15_18 : decode jdk_42_method_154_code 18 = .ok (.ireturn, 1) := by decide +kernel
set_option maxRecDepth 65536 in
set_option maxHeartbeats 40000000 in
theorem rmIl_2 (l : Launch) (Z : State) (a0 : Array Value) (hw : ∀ d ∈ tables_1, d.before a0 Z = true) (a : Addr) (u0 u1 : Int32)  (h0 : Heap) (n0 : Nat) (Z0 : n0 ≤ h0.size) (O0 : Old Z n0 h0) (cs : Int32) (SC : Sta Z Z.heap "java/lang/String" "COMPACT_STRINGS" "Z" (.int cs)) (hcs : ¬ cs = (0 : Int32)) (ya : Addr) (ka : ClassId) (PA : Str Z h0 a ya ka (Int32.ofNat 2) [Value.int u0, Value.int u1]) :
    Pays l Z (⟨"java/lang/String", "isLatin1", "()Z"⟩ : MethodName) jdk_42_method_154_code 1 (some .boolean) [] ({ frames := 0, cells := 0, slots := 0, locals := 0 } : Room) #[(.ref a)] h0 (fun v h L => v = some (.int (1 : Int32)) ∧ Fr n0 L ∧ h = h0) := by
  refine Pays.walk (plainFor_of_name pn_1) (fun m => ef_2 m a ) ?_
  intro p e s m below meth c T0 X0 hx hby hml hown hnm hZ e0 hret hlk
  have N0 := Fr.nil n0
  have BA : Arf Z h0 ya .byte Value.int 2 (fun i => ([u0, u1] : List Int32).getD i 0) := Arv.arf PA.2.2.2 (by decide) (own_lt2 rfl rfl)
  obtain ⟨T1, X1, e1, st1⟩ := getS (host := "") X0 hx hZ hown (own_w hw 24 rfl) Via.refl e0 (Sta.ext O0.2 SC) (g := (mkF m 0 #[.val (.ref a)] [])) rfl (hb hby d15_0)
  refine Goes.on (T' := T1) (g' := (mkF m 7 #[.val (.ref a)] [(.ref a)])) (fun _ k => st1 _ (XS.ifNo X1.here hx rfl (hb hby d15_3) rfl (XT.i0_eq_f hcs) (XS.aloadN X1.here hx rfl (hb hby d15_6) rfl rfl k))) ?_
  obtain ⟨T2, X2, e2, st2⟩ := getF X1 hx hZ hown (host := "") (Or.inl (own_w hw 36 rfl)) Via.refl e1 PA.2.1 (g := (mkF m 7 #[.val (.ref a)] [(.ref a)])) rfl rfl (hb hby d15_7)
  refine Goes.on (T' := T2) (g' := (mkF m 18 #[.val (.ref a)] [(.int (1 : Int32))])) (fun _ k => st2 _ (XS.ifNo X2.here hx rfl (hb hby d15_10) rfl (XT.i0_ne_f (by decide)) (XS.iconst X2.here hx rfl (hb hby d15_13) (XS.goto X2.here hx rfl (pc0 := 14) (pc' := 18) rfl (hb hby d15_14) (by decide) (by decide) k)))) ?_
  exact Goes.retB X2 hx hlk hret (Or.inr rfl) (hb hby d15_18) (by decide) (by decide) ⟨rfl, N0, e2⟩
theorem d16_0 : decode jdk_42_method_54_code 0 = .ok (.aload_n 0, 1) := by decide +kernel
theorem d16_1 : decode jdk_42_method_54_code 1 = .ok (.getfield 9, 3) := by decide +kernel
theorem d16_4 : decode jdk_42_method_54_code 4 = .ok (.arraylength, 1) := by decide +kernel
theorem d16_5 : decode jdk_42_method_54_code 5 = .ok (.aload_n 0, 1) := by decide +kernel
theorem pd_1 : parseMethodDescriptor "()B" = some ⟨[], some .byte⟩ := by decide +kernel
theorem d16_6 : decode jdk_42_method_54_code 6 = .ok (.invokevirtual 335, 3) := by decide +kernel
theorem d16_9 : decode jdk_42_method_54_code 9 = .ok (.ishr, 1) := by decide +kernel
theorem d16_10 : decode jdk_42_method_54_code 10 = .ok (.ireturn, 1) := by decide +kernel
set_option maxRecDepth 65536 in
set_option maxHeartbeats 40000000 in
theorem rmLn_2 (l : Launch) (Z : State) (a0 : Array Value) (hw : ∀ d ∈ tables_1, d.before a0 Z = true) (a : Addr) (u0 u1 : Int32)  (h0 : Heap) (n0 : Nat) (Z0 : n0 ≤ h0.size) (O0 : Old Z n0 h0) (cs : Int32) (SC : Sta Z Z.heap "java/lang/String" "COMPACT_STRINGS" "Z" (.int cs)) (hcs : ¬ cs = (0 : Int32)) (ya : Addr) (ka : ClassId) (PA : Str Z h0 a ya ka (Int32.ofNat 2) [Value.int u0, Value.int u1]) :
    Pays l Z (⟨"java/lang/String", "length", "()I"⟩ : MethodName) jdk_42_method_54_code 1 (some .int) [] ({ frames := 1, cells := 0, slots := 0, locals := 13 } : Room) #[(.ref a)] h0 (fun v h L => v = some (.int (2 : Int32)) ∧ Fr n0 L ∧ h = h0) := by
  refine Pays.walk (plainFor_of_name pn_1) (fun m => ef_2 m a ) ?_
  intro p e s m below meth c T0 X0 hx hby hml hown hnm hZ e0 hret hlk
  have N0 := Fr.nil n0
  have BA : Arf Z h0 ya .byte Value.int 2 (fun i => ([u0, u1] : List Int32).getD i 0) := Arv.arf PA.2.2.2 (by decide) (own_lt2 rfl rfl)
  refine Goes.on (T' := T0) (g' := (mkF m 1 #[.val (.ref a)] [(.ref a)])) (fun _ k => XS.aloadN X0.here hx rfl (hb hby d16_0) rfl rfl k) ?_
  obtain ⟨T1, X1, e1, st1⟩ := getF X0 hx hZ hown (host := "") (Or.inl (own_w hw 38 rfl)) Via.refl e0 PA.2.2.1 (g := (mkF m 1 #[.val (.ref a)] [(.ref a)])) rfl rfl (hb hby d16_1)
  refine Goes.on (T' := T1) (g' := (mkF m 6 #[.val (.ref a)] [(.ref a), (.int (2 : Int32))])) (fun _ k => st1 _ (aLenm X1 hx hZ e1 BA (hb hby d16_4) (XS.aloadN X1.here hx rfl (hb hby d16_5) rfl rfl k))) ?_
  refine Goes.callV X1 hx hZ 1 hown (own_w hw 83 rfl) (own_w hw 84 rfl) (notFace_of_selects (args := #[]) (mvT hZ (own_w hw 86 rfl))) (own_w hw 86 rfl) (own_w hw 85 rfl) (own_w hw 13 rfl) (own_w hw 87 rfl) (by decide) e1 PA.1 (rmCo_2 l Z a0 hw a u0 u1 h0 n0 Z0 O0 cs SC hcs ya ka PA) (by decide) (by decide) (by decide) (by decide) rfl (by rw [hml]; rfl) (argsL := []) (rest := [(.int (2 : Int32))]) rfl (lenOf pd_1 rfl) rfl (by show 2 * 0 + _ ≤ _; exact Nat.le_of_eq rfl) (hb hby d16_6) ?_
  intro v3 T3 L3 X3 hQ3
  obtain ⟨rfl, N3q, e3⟩ := hQ3
  have N3 := Fr.app N0 N3q
  show Goes p e below _ T3 (mkF m 9 #[.val (.ref a)] [(.int (0 : Int32)), (.int (2 : Int32))])
  refine Goes.on (T' := T3) (g' := (mkF m 10 #[.val (.ref a)] [(.int (2 : Int32))])) (fun _ k => XS.ishr X3.here hx rfl (hb hby d16_9) rfl k) ?_
  exact Goes.retI X3 hx hlk hret (hb hby d16_10) (by decide) (by decide) ⟨rfl, N3, e3⟩
theorem d19_0 : decode jdk_43_method_4_code 0 = .ok (.iload_n 0, 1) := by decide +kernel
theorem d19_1 : decode jdk_43_method_4_code 1 = .ok (.ifCond .lt 14, 3) := by decide +kernel
theorem d19_4 : decode jdk_43_method_4_code 4 = .ok (.iload_n 0, 1) := by decide +kernel
theorem d19_5 : decode jdk_43_method_4_code 5 = .ok (.sipush 255, 3) := by decide +kernel
theorem d19_8 : decode jdk_43_method_4_code 8 = .ok (.if_icmp .gt 7, 3) := by decide +kernel
theorem d19_11 : decode jdk_43_method_4_code 11 = .ok (.iconst 1, 1) := by decide +kernel
theorem d19_12 : decode jdk_43_method_4_code 12 = .ok (.goto 4, 3) := by decide +kernel
theorem d19_16 : decode jdk_43_method_4_code 16 = .ok (.ireturn, 1) := by decide +kernel
theorem ef_3 (m : MethodId) (x0 : Int32) : entryFrame m #[(.int x0)] 1 = mkF m 0 #[.val (.int x0)] [] := by first | (simp [entryFrame, mkF, argsToLocals, Value.category]; done) | rfl
theorem pn_2 : plainName "java/lang/StringLatin1" = true := by first | (simp [plainName, overriddenIn]; done) | decide +kernel
set_option maxRecDepth 65536 in
set_option maxHeartbeats 40000000 in
theorem rmCE47 (l : Launch) (Z : State) (a0 : Array Value) (hw : ∀ d ∈ tables_1, d.before a0 Z = true)  (h0 : Heap) (n0 : Nat) (Z0 : n0 ≤ h0.size) :
    Pays l Z (⟨"java/lang/StringLatin1", "canEncode", "(I)Z"⟩ : MethodName) jdk_43_method_4_code 1 (some .boolean) [] ({ frames := 0, cells := 0, slots := 0, locals := 0 } : Room) #[(.int (47 : Int32))] h0 (fun v h L => v = some (.int (1 : Int32)) ∧ Fr n0 L ∧ h = h0) := by
  refine Pays.walk (plainFor_of_name pn_2) (fun m => ef_3 m (47 : Int32) ) ?_
  intro p e s m below meth c T0 X0 hx hby hml hown hnm hZ e0 hret hlk
  have N0 := Fr.nil n0
  refine Goes.on (T' := T0) (g' := (mkF m 16 #[.val (.int (47 : Int32))] [(.int (1 : Int32))])) (fun _ k => XS.iloadN X0.here hx rfl (hb hby d19_0) rfl (XS.ifNo X0.here hx rfl (hb hby d19_1) rfl (XT.i0_lt_f (by decide)) (XS.iloadN X0.here hx rfl (hb hby d19_4) rfl (XS.sipush X0.here hx rfl (hb hby d19_5) (XS.icmpNo X0.here hx rfl (hb hby d19_8) rfl (XT.ii_gt_f (by decide)) (XS.iconst X0.here hx rfl (hb hby d19_11) (XS.goto X0.here hx rfl (pc0 := 12) (pc' := 16) rfl (hb hby d19_12) (by decide) (by decide) k))))))) ?_
  exact Goes.retB X0 hx hlk hret (Or.inr rfl) (hb hby d19_16) (by decide) (by decide) ⟨rfl, N0, e0⟩
theorem d20_0 : decode jdk_29_method_65_code 0 = .ok (.iload_n 0, 1) := by decide +kernel
theorem d20_1 : decode jdk_29_method_65_code 1 = .ok (.iload_n 1, 1) := by decide +kernel
theorem d20_2 : decode jdk_29_method_65_code 2 = .ok (.if_icmp .lt 7, 3) := by decide +kernel
theorem d20_5 : decode jdk_29_method_65_code 5 = .ok (.iload_n 0, 1) := by decide +kernel
theorem d20_6 : decode jdk_29_method_65_code 6 = .ok (.goto 4, 3) := by decide +kernel
theorem d20_10 : decode jdk_29_method_65_code 10 = .ok (.ireturn, 1) := by decide +kernel
theorem ef_4 (m : MethodId) (x0 : Int32) (x1 : Int32) : entryFrame m #[(.int x0), (.int x1)] 2 = mkF m 0 #[.val (.int x0), .val (.int x1)] [] := by first | (simp [entryFrame, mkF, argsToLocals, Value.category]; done) | rfl
set_option maxRecDepth 65536 in
set_option maxHeartbeats 40000000 in
theorem rmMx (l : Launch) (Z : State) (a0 : Array Value) (hw : ∀ d ∈ tables_1, d.before a0 Z = true)  (h0 : Heap) (n0 : Nat) (Z0 : n0 ≤ h0.size) :
    Pays l Z (⟨"java/lang/Math", "max", "(II)I"⟩ : MethodName) jdk_29_method_65_code 2 (some .int) [] ({ frames := 0, cells := 0, slots := 0, locals := 0 } : Room) #[(.int (0 : Int32)), (.int (0 : Int32))] h0 (fun v h L => v = some (.int (0 : Int32)) ∧ Fr n0 L ∧ h = h0) := by
  refine Pays.walk (by decide +kernel) (fun m => ef_4 m (0 : Int32) (0 : Int32) ) ?_
  intro p e s m below meth c T0 X0 hx hby hml hown hnm hZ e0 hret hlk
  have N0 := Fr.nil n0
  refine Goes.on (T' := T0) (g' := (mkF m 10 #[.val (.int (0 : Int32)), .val (.int (0 : Int32))] [(.int (0 : Int32))])) (fun _ k => XS.iloadN X0.here hx rfl (hb hby d20_0) rfl (XS.iloadN X0.here hx rfl (hb hby d20_1) rfl (XS.icmpNo X0.here hx rfl (hb hby d20_2) rfl (XT.ii_lt_f (by decide)) (XS.iloadN X0.here hx rfl (hb hby d20_5) rfl (XS.goto X0.here hx rfl (pc0 := 6) (pc' := 10) rfl (hb hby d20_6) (by decide) (by decide) k))))) ?_
  exact Goes.retI X0 hx hlk hret (hb hby d20_10) (by decide) (by decide) ⟨rfl, N0, e0⟩
theorem d21_0 : decode jdk_29_method_69_code 0 = .ok (.iload_n 0, 1) := by decide +kernel
theorem d21_1 : decode jdk_29_method_69_code 1 = .ok (.iload_n 1, 1) := by decide +kernel
theorem d21_2 : decode jdk_29_method_69_code 2 = .ok (.if_icmp .gt 7, 3) := by decide +kernel
theorem d21_5 : decode jdk_29_method_69_code 5 = .ok (.iload_n 0, 1) := by decide +kernel
theorem d21_6 : decode jdk_29_method_69_code 6 = .ok (.goto 4, 3) := by decide +kernel
theorem d21_10 : decode jdk_29_method_69_code 10 = .ok (.ireturn, 1) := by decide +kernel
set_option maxRecDepth 65536 in
set_option maxHeartbeats 40000000 in
theorem rmMn2 (l : Launch) (Z : State) (a0 : Array Value) (hw : ∀ d ∈ tables_1, d.before a0 Z = true)  (h0 : Heap) (n0 : Nat) (Z0 : n0 ≤ h0.size) :
    Pays l Z (⟨"java/lang/Math", "min", "(II)I"⟩ : MethodName) jdk_29_method_69_code 2 (some .int) [] ({ frames := 0, cells := 0, slots := 0, locals := 0 } : Room) #[(.int (2 : Int32)), (.int (2 : Int32))] h0 (fun v h L => v = some (.int (2 : Int32)) ∧ Fr n0 L ∧ h = h0) := by
  refine Pays.walk (by decide +kernel) (fun m => ef_4 m (2 : Int32) (2 : Int32) ) ?_
  intro p e s m below meth c T0 X0 hx hby hml hown hnm hZ e0 hret hlk
  have N0 := Fr.nil n0
  refine Goes.on (T' := T0) (g' := (mkF m 10 #[.val (.int (2 : Int32)), .val (.int (2 : Int32))] [(.int (2 : Int32))])) (fun _ k => XS.iloadN X0.here hx rfl (hb hby d21_0) rfl (XS.iloadN X0.here hx rfl (hb hby d21_1) rfl (XS.icmpNo X0.here hx rfl (hb hby d21_2) rfl (XT.ii_gt_f (by decide)) (XS.iloadN X0.here hx rfl (hb hby d21_5) rfl (XS.goto X0.here hx rfl (pc0 := 6) (pc' := 10) rfl (hb hby d21_6) (by decide) (by decide) k))))) ?_
  exact Goes.retI X0 hx hlk hret (hb hby d21_10) (by decide) (by decide) ⟨rfl, N0, e0⟩
theorem d22_0 : decode jdk_43_method_23_code 0 = .ok (.iload_n 1, 1) := by decide +kernel
theorem d22_1 : decode jdk_43_method_23_code 1 = .ok (.i2b, 1) := by decide +kernel
theorem d22_2 : decode jdk_43_method_23_code 2 = .ok (.istore 4, 2) := by decide +kernel
theorem d22_4 : decode jdk_43_method_23_code 4 = .ok (.iload_n 2, 1) := by decide +kernel
theorem d22_5 : decode jdk_43_method_23_code 5 = .ok (.istore 5, 2) := by decide +kernel
theorem d22_7 : decode jdk_43_method_23_code 7 = .ok (.iload 5, 2) := by decide +kernel
theorem d22_9 : decode jdk_43_method_23_code 9 = .ok (.iload_n 3, 1) := by decide +kernel
theorem d22_10 : decode jdk_43_method_23_code 10 = .ok (.if_icmp .ge 21, 3) := by decide +kernel
theorem d22_13 : decode jdk_43_method_23_code 13 = .ok (.aload_n 0, 1) := by decide +kernel
theorem d22_14 : decode jdk_43_method_23_code 14 = .ok (.iload 5, 2) := by decide +kernel
theorem d22_16 : decode jdk_43_method_23_code 16 = .ok (.baload, 1) := by decide +kernel
theorem d22_17 : decode jdk_43_method_23_code 17 = .ok (.iload 4, 2) := by decide +kernel
theorem d22_19 : decode jdk_43_method_23_code 19 = .ok (.if_icmp .ne 6, 3) := by decide +kernel
theorem d22_25 : decode jdk_43_method_23_code 25 = .ok (.iinc 5 1, 3) := by decide +kernel
theorem d22_28 : decode jdk_43_method_23_code 28 = .ok (.goto (-21), 3) := by decide +kernel
theorem d22_31 : decode jdk_43_method_23_code 31 = .ok (.iconst (-1), 1) := by decide +kernel
theorem d22_32 : decode jdk_43_method_23_code 32 = .ok (.ireturn, 1) := by decide +kernel
theorem ef_5 (m : MethodId) (x0 : Addr) (x1 : Int32) (x2 : Int32) (x3 : Int32) : entryFrame m #[(.ref x0), (.int x1), (.int x2), (.int x3)] 6 = mkF m 0 #[.val (.ref x0), .val (.int x1), .val (.int x2), .val (.int x3), .unset, .unset] [] := by first | (simp [entryFrame, mkF, argsToLocals, Value.category]; done) | rfl
set_option maxRecDepth 65536 in
set_option maxHeartbeats 40000000 in
theorem rmIc47_2 (l : Launch) (Z : State) (a0 : Array Value) (hw : ∀ d ∈ tables_1, d.before a0 Z = true) (ya : Addr) (u0 u1 : Int32)  (h0 : Heap) (n0 : Nat) (Z0 : n0 ≤ h0.size) (BA : Arf Z h0 ya .byte Value.int 2 (fun i => ([u0, u1] : List Int32).getD i 0)) (g0 : ¬ u0 = (47 : Int32).toInt8.toInt32) (g1 : ¬ u1 = (47 : Int32).toInt8.toInt32) :
    Pays l Z (⟨"java/lang/StringLatin1", "indexOfChar", "([BIII)I"⟩ : MethodName) jdk_43_method_23_code 6 (some .int) [] ({ frames := 0, cells := 0, slots := 0, locals := 0 } : Room) #[(.ref ya), (.int (47 : Int32)), (.int (0 : Int32)), (.int (2 : Int32))] h0 (fun v h L => v = some (.int (-1 : Int32)) ∧ Fr n0 L ∧ h = h0) := by
  refine Pays.walk (plainFor_of_name pn_2) (fun m => ef_5 m ya (47 : Int32) (0 : Int32) (2 : Int32) ) ?_
  intro p e s m below meth c T0 X0 hx hby hml hown hnm hZ e0 hret hlk
  have N0 := Fr.nil n0
  refine Goes.on (T' := T0) (g' := (mkF m 19 #[.val (.ref ya), .val (.int (47 : Int32)), .val (.int (0 : Int32)), .val (.int (2 : Int32)), .val (.int ((47 : Int32).toInt8.toInt32)), .val (.int (0 : Int32))] [(.int ((47 : Int32).toInt8.toInt32)), (.int u0)])) (fun _ k => XS.iloadN X0.here hx rfl (hb hby d22_0) rfl (XS.i2b X0.here hx rfl (hb hby d22_1) rfl (XS.istore X0.here hx rfl (hb hby d22_2) rfl (l' := #[.val (.ref ya), .val (.int (47 : Int32)), .val (.int (0 : Int32)), .val (.int (2 : Int32)), .val (.int ((47 : Int32).toInt8.toInt32)), .unset]) rfl (XS.iloadN X0.here hx rfl (hb hby d22_4) rfl (XS.istore X0.here hx rfl (hb hby d22_5) rfl (l' := #[.val (.ref ya), .val (.int (47 : Int32)), .val (.int (0 : Int32)), .val (.int (2 : Int32)), .val (.int ((47 : Int32).toInt8.toInt32)), .val (.int (0 : Int32))]) rfl (XS.iload X0.here hx rfl (hb hby d22_7) rfl (XS.iloadN X0.here hx rfl (hb hby d22_9) rfl (XS.icmpNo X0.here hx rfl (hb hby d22_10) rfl (XT.ii_ge_f (by decide)) (XS.aloadN X0.here hx rfl (hb hby d22_13) rfl rfl (XS.iload X0.here hx rfl (hb hby d22_14) rfl (ldYm X0 hx hZ e0 BA (by decide) (hb hby d22_16) (XS.iload X0.here hx rfl (hb hby d22_17) rfl k)))))))))))) ?_
  refine Goes.on (T' := T0) (g' := (mkF m 28 #[.val (.ref ya), .val (.int (47 : Int32)), .val (.int (0 : Int32)), .val (.int (2 : Int32)), .val (.int ((47 : Int32).toInt8.toInt32)), .val (.int (2 : Int32))] [])) (fun _ k => XS.icmpYes X0.here hx rfl (pc0 := 19) (pc' := 25) rfl (hb hby d22_19) rfl (XT.ii_ne_t g0) (by decide) (by decide) (XT.iincV X0.here hx rfl (1 : Int32) (hb hby d22_25) (by decide) rfl (l' := #[.val (.ref ya), .val (.int (47 : Int32)), .val (.int (0 : Int32)), .val (.int (2 : Int32)), .val (.int ((47 : Int32).toInt8.toInt32)), .val (.int (1 : Int32))]) rfl (XS.goto X0.here hx rfl (pc0 := 28) (pc' := 7) rfl (hb hby d22_28) (by decide) (by decide) (XS.iload X0.here hx rfl (hb hby d22_7) rfl (XS.iloadN X0.here hx rfl (hb hby d22_9) rfl (XS.icmpNo X0.here hx rfl (hb hby d22_10) rfl (XT.ii_ge_f (by decide)) (XS.aloadN X0.here hx rfl (hb hby d22_13) rfl rfl (XS.iload X0.here hx rfl (hb hby d22_14) rfl (ldYm X0 hx hZ e0 BA (by decide) (hb hby d22_16) (XS.iload X0.here hx rfl (hb hby d22_17) rfl (XS.icmpYes X0.here hx rfl (pc0 := 19) (pc' := 25) rfl (hb hby d22_19) rfl (XT.ii_ne_t g1) (by decide) (by decide) (XT.iincV X0.here hx rfl (1 : Int32) (hb hby d22_25) (by decide) rfl (l' := #[.val (.ref ya), .val (.int (47 : Int32)), .val (.int (0 : Int32)), .val (.int (2 : Int32)), .val (.int ((47 : Int32).toInt8.toInt32)), .val (.int (2 : Int32))]) rfl k)))))))))))) ?_
  refine Goes.on (T' := T0) (g' := (mkF m 32 #[.val (.ref ya), .val (.int (47 : Int32)), .val (.int (0 : Int32)), .val (.int (2 : Int32)), .val (.int ((47 : Int32).toInt8.toInt32)), .val (.int (2 : Int32))] [(.int (-1 : Int32))])) (fun _ k => XS.goto X0.here hx rfl (pc0 := 28) (pc' := 7) rfl (hb hby d22_28) (by decide) (by decide) (XS.iload X0.here hx rfl (hb hby d22_7) rfl (XS.iloadN X0.here hx rfl (hb hby d22_9) rfl (XS.icmpYes X0.here hx rfl (pc0 := 10) (pc' := 31) rfl (hb hby d22_10) rfl (XT.ii_ge_t (by decide)) (by decide) (by decide) (XS.iconst X0.here hx rfl (hb hby d22_31) k))))) ?_
  exact Goes.retI X0 hx hlk hret (hb hby d22_32) (by decide) (by decide) ⟨rfl, N0, e0⟩
theorem d18_0 : decode jdk_43_method_22_code 0 = .ok (.iload_n 1, 1) := by decide +kernel
theorem pd_2 : parseMethodDescriptor "(I)Z" = some ⟨[.int], some .boolean⟩ := by decide +kernel
theorem d18_1 : decode jdk_43_method_22_code 1 = .ok (.invokestatic 88, 3) := by decide +kernel
theorem d18_4 : decode jdk_43_method_22_code 4 = .ok (.ifCond .ne 5, 3) := by decide +kernel
theorem d18_9 : decode jdk_43_method_22_code 9 = .ok (.iload_n 2, 1) := by decide +kernel
theorem d18_10 : decode jdk_43_method_22_code 10 = .ok (.iconst 0, 1) := by decide +kernel
theorem pd_3 : parseMethodDescriptor "(II)I" = some ⟨[.int, .int], some .int⟩ := by decide +kernel
theorem d18_11 : decode jdk_43_method_22_code 11 = .ok (.invokestatic 92, 3) := by decide +kernel
theorem d18_14 : decode jdk_43_method_22_code 14 = .ok (.istore_n 2, 1) := by decide +kernel
theorem d18_15 : decode jdk_43_method_22_code 15 = .ok (.iload_n 3, 1) := by decide +kernel
theorem d18_16 : decode jdk_43_method_22_code 16 = .ok (.aload_n 0, 1) := by decide +kernel
theorem d18_17 : decode jdk_43_method_22_code 17 = .ok (.arraylength, 1) := by decide +kernel
theorem d18_18 : decode jdk_43_method_22_code 18 = .ok (.invokestatic 38, 3) := by decide +kernel
theorem d18_21 : decode jdk_43_method_22_code 21 = .ok (.istore_n 3, 1) := by decide +kernel
theorem d18_22 : decode jdk_43_method_22_code 22 = .ok (.iload_n 2, 1) := by decide +kernel
theorem d18_23 : decode jdk_43_method_22_code 23 = .ok (.iload_n 3, 1) := by decide +kernel
theorem d18_24 : decode jdk_43_method_22_code 24 = .ok (.if_icmp .lt 5, 3) := by decide +kernel
theorem d18_29 : decode jdk_43_method_22_code 29 = .ok (.aload_n 0, 1) := by decide +kernel
theorem d18_30 : decode jdk_43_method_22_code 30 = .ok (.iload_n 1, 1) := by decide +kernel
theorem d18_31 : decode jdk_43_method_22_code 31 = .ok (.iload_n 2, 1) := by decide +kernel
theorem d18_32 : decode jdk_43_method_22_code 32 = .ok (.iload_n 3, 1) := by decide +kernel
theorem pd_4 : parseMethodDescriptor "([BIII)I" = some ⟨[(.array .byte), .int, .int, .int], some .int⟩ := by decide +kernel
theorem d18_33 : decode jdk_43_method_22_code 33 = .ok (.invokestatic 95, 3) := by decide +kernel
theorem d18_36 : decode jdk_43_method_22_code 36 = .ok (.ireturn, 1) := by decide +kernel
theorem ef_6 (m : MethodId) (x0 : Addr) (x1 : Int32) (x2 : Int32) (x3 : Int32) : entryFrame m #[(.ref x0), (.int x1), (.int x2), (.int x3)] 4 = mkF m 0 #[.val (.ref x0), .val (.int x1), .val (.int x2), .val (.int x3)] [] := by first | (simp [entryFrame, mkF, argsToLocals, Value.category]; done) | rfl
set_option maxRecDepth 65536 in
set_option maxHeartbeats 40000000 in
theorem rmIl247_2 (l : Launch) (Z : State) (a0 : Array Value) (hw : ∀ d ∈ tables_1, d.before a0 Z = true) (ya : Addr) (u0 u1 : Int32)  (h0 : Heap) (n0 : Nat) (Z0 : n0 ≤ h0.size) (BA : Arf Z h0 ya .byte Value.int 2 (fun i => ([u0, u1] : List Int32).getD i 0)) (g0 : ¬ u0 = (47 : Int32).toInt8.toInt32) (g1 : ¬ u1 = (47 : Int32).toInt8.toInt32) :
    Pays l Z (⟨"java/lang/StringLatin1", "indexOf", "([BIII)I"⟩ : MethodName) jdk_43_method_22_code 4 (some .int) [] ({ frames := 1, cells := 0, slots := 0, locals := 17 } : Room) #[(.ref ya), (.int (47 : Int32)), (.int (0 : Int32)), (.int (2 : Int32))] h0 (fun v h L => v = some (.int (-1 : Int32)) ∧ Fr n0 L ∧ h = h0) := by
  refine Pays.walk (plainFor_of_name pn_2) (fun m => ef_6 m ya (47 : Int32) (0 : Int32) (2 : Int32) ) ?_
  intro p e s m below meth c T0 X0 hx hby hml hown hnm hZ e0 hret hlk
  have N0 := Fr.nil n0
  refine Goes.on (T' := T0) (g' := (mkF m 1 #[.val (.ref ya), .val (.int (47 : Int32)), .val (.int (0 : Int32)), .val (.int (2 : Int32))] [(.int (47 : Int32))])) (fun _ k => XS.iloadN X0.here hx rfl (hb hby d18_0) rfl k) ?_
  refine Goes.callS X0 hx hZ 0 hown (own_w hw 91 rfl) (own_w hw 92 rfl) (own_w hw 60 rfl) (own_w hw 93 rfl) (by decide) e0 (rmCE47 l Z a0 hw h0 n0 Z0) (by decide) (by decide) (by decide) (by decide) rfl (by rw [hml]; rfl) (argsL := [(.int (47 : Int32))]) (rest := []) rfl (lenOf pd_2 rfl) rfl (by show 2 * 0 + _ ≤ _; exact Nat.le_of_eq rfl) (hb hby d18_1) ?_
  intro v1 T1 L1 X1 hQ1
  obtain ⟨rfl, N1q, e1⟩ := hQ1
  have N1 := Fr.app N0 N1q
  show Goes p e below _ T1 (mkF m 4 #[.val (.ref ya), .val (.int (47 : Int32)), .val (.int (0 : Int32)), .val (.int (2 : Int32))] [(.int (1 : Int32))])
  refine Goes.on (T' := T1) (g' := (mkF m 11 #[.val (.ref ya), .val (.int (47 : Int32)), .val (.int (0 : Int32)), .val (.int (2 : Int32))] [(.int (0 : Int32)), (.int (0 : Int32))])) (fun _ k => XS.ifYes X1.here hx rfl (pc0 := 4) (pc' := 9) rfl (hb hby d18_4) rfl (XT.i0_ne_t (by decide)) (by decide) (by decide) (XS.iloadN X1.here hx rfl (hb hby d18_9) rfl (XS.iconst X1.here hx rfl (hb hby d18_10) k))) ?_
  refine Goes.callS X1 hx hZ 0 hown (own_w hw 94 rfl) (own_w hw 95 rfl) (own_w hw 96 rfl) (own_w hw 97 rfl) (by decide) e1 (rmMx l Z a0 hw h0 n0 Z0) (by decide) (by decide) (by decide) (by decide) rfl (by rw [hml]; rfl) (argsL := [(.int (0 : Int32)), (.int (0 : Int32))]) (rest := []) rfl (lenOf pd_3 rfl) rfl (by show 2 * 0 + _ ≤ _; exact Nat.le_of_eq rfl) (hb hby d18_11) ?_
  intro v2 T2 L2 X2 hQ2
  obtain ⟨rfl, N2q, e2⟩ := hQ2
  have N2 := Fr.app N1 N2q
  show Goes p e below _ T2 (mkF m 14 #[.val (.ref ya), .val (.int (47 : Int32)), .val (.int (0 : Int32)), .val (.int (2 : Int32))] [(.int (0 : Int32))])
  refine Goes.on (T' := T2) (g' := (mkF m 18 #[.val (.ref ya), .val (.int (47 : Int32)), .val (.int (0 : Int32)), .val (.int (2 : Int32))] [(.int (2 : Int32)), (.int (2 : Int32))])) (fun _ k => XS.istoreN X2.here hx rfl (hb hby d18_14) rfl (l' := #[.val (.ref ya), .val (.int (47 : Int32)), .val (.int (0 : Int32)), .val (.int (2 : Int32))]) rfl (XS.iloadN X2.here hx rfl (hb hby d18_15) rfl (XS.aloadN X2.here hx rfl (hb hby d18_16) rfl rfl (aLenm X2 hx hZ e2 BA (hb hby d18_17) k)))) ?_
  refine Goes.callS X2 hx hZ 0 hown (own_w hw 98 rfl) (own_w hw 99 rfl) (own_w hw 96 rfl) (own_w hw 100 rfl) (by decide) e2 (rmMn2 l Z a0 hw h0 n0 Z0) (by decide) (by decide) (by decide) (by decide) rfl (by rw [hml]; rfl) (argsL := [(.int (2 : Int32)), (.int (2 : Int32))]) (rest := []) rfl (lenOf pd_3 rfl) rfl (by show 2 * 0 + _ ≤ _; exact Nat.le_of_eq rfl) (hb hby d18_18) ?_
  intro v4 T4 L4 X4 hQ4
  obtain ⟨rfl, N4q, e4⟩ := hQ4
  have N4 := Fr.app N2 N4q
  show Goes p e below _ T4 (mkF m 21 #[.val (.ref ya), .val (.int (47 : Int32)), .val (.int (0 : Int32)), .val (.int (2 : Int32))] [(.int (2 : Int32))])
  refine Goes.on (T' := T4) (g' := (mkF m 33 #[.val (.ref ya), .val (.int (47 : Int32)), .val (.int (0 : Int32)), .val (.int (2 : Int32))] [(.int (2 : Int32)), (.int (0 : Int32)), (.int (47 : Int32)), (.ref ya)])) (fun _ k => XS.istoreN X4.here hx rfl (hb hby d18_21) rfl (l' := #[.val (.ref ya), .val (.int (47 : Int32)), .val (.int (0 : Int32)), .val (.int (2 : Int32))]) rfl (XS.iloadN X4.here hx rfl (hb hby d18_22) rfl (XS.iloadN X4.here hx rfl (hb hby d18_23) rfl (XS.icmpYes X4.here hx rfl (pc0 := 24) (pc' := 29) rfl (hb hby d18_24) rfl (XT.ii_lt_t (by decide)) (by decide) (by decide) (XS.aloadN X4.here hx rfl (hb hby d18_29) rfl rfl (XS.iloadN X4.here hx rfl (hb hby d18_30) rfl (XS.iloadN X4.here hx rfl (hb hby d18_31) rfl (XS.iloadN X4.here hx rfl (hb hby d18_32) rfl k)))))))) ?_
  refine Goes.callS X4 hx hZ 0 hown (own_w hw 101 rfl) (own_w hw 102 rfl) (own_w hw 60 rfl) (own_w hw 103 rfl) (by decide) e4 (rmIc47_2 l Z a0 hw ya u0 u1 h0 n0 Z0 BA g0 g1) (by decide) (by decide) (by decide) (by decide) rfl (by rw [hml]; rfl) (argsL := [(.ref ya), (.int (47 : Int32)), (.int (0 : Int32)), (.int (2 : Int32))]) (rest := []) rfl (lenOf pd_4 rfl) rfl (by show 2 * 0 + _ ≤ _; exact Nat.le_of_eq rfl) (hb hby d18_33) ?_
  intro v5 T5 L5 X5 hQ5
  obtain ⟨rfl, N5q, e5⟩ := hQ5
  have N5 := Fr.app N4 N5q
  show Goes p e below _ T5 (mkF m 36 #[.val (.ref ya), .val (.int (47 : Int32)), .val (.int (0 : Int32)), .val (.int (2 : Int32))] [(.int (-1 : Int32))])
  exact Goes.retI X5 hx hlk hret (hb hby d18_36) (by decide) (by decide) ⟨rfl, N5, e5⟩
theorem d14_0 : decode jdk_42_method_80_code 0 = .ok (.aload_n 0, 1) := by decide +kernel
theorem pd_5 : parseMethodDescriptor "()Z" = some ⟨[], some .boolean⟩ := by decide +kernel
theorem d14_1 : decode jdk_42_method_80_code 1 = .ok (.invokevirtual 492, 3) := by decide +kernel
theorem d14_4 : decode jdk_42_method_80_code 4 = .ok (.ifCond .eq 19, 3) := by decide +kernel
theorem d14_7 : decode jdk_42_method_80_code 7 = .ok (.aload_n 0, 1) := by decide +kernel
theorem d14_8 : decode jdk_42_method_80_code 8 = .ok (.getfield 9, 3) := by decide +kernel
theorem d14_11 : decode jdk_42_method_80_code 11 = .ok (.iload_n 1, 1) := by decide +kernel
theorem d14_12 : decode jdk_42_method_80_code 12 = .ok (.iload_n 2, 1) := by decide +kernel
theorem d14_13 : decode jdk_42_method_80_code 13 = .ok (.aload_n 0, 1) := by decide +kernel
theorem pd_6 : parseMethodDescriptor "()I" = some ⟨[], some .int⟩ := by decide +kernel
theorem d14_14 : decode jdk_42_method_80_code 14 = .ok (.invokevirtual 505, 3) := by decide +kernel
theorem d14_17 : decode jdk_42_method_80_code 17 = .ok (.invokestatic 637, 3) := by decide +kernel
theorem d14_20 : decode jdk_42_method_80_code 20 = .ok (.goto 16, 3) := by decide +kernel
theorem d14_36 : decode jdk_42_method_80_code 36 = .ok (.ireturn, 1) := by decide +kernel
theorem ef_7 (m : MethodId) (x0 : Addr) (x1 : Int32) (x2 : Int32) : entryFrame m #[(.ref x0), (.int x1), (.int x2)] 3 = mkF m 0 #[.val (.ref x0), .val (.int x1), .val (.int x2)] [] := by first | (simp [entryFrame, mkF, argsToLocals, Value.category]; done) | rfl
set_option maxRecDepth 65536 in
set_option maxHeartbeats 40000000 in
theorem rmI247_2 (l : Launch) (Z : State) (a0 : Array Value) (hw : ∀ d ∈ tables_1, d.before a0 Z = true) (a : Addr) (u0 u1 : Int32)  (h0 : Heap) (n0 : Nat) (Z0 : n0 ≤ h0.size) (O0 : Old Z n0 h0) (cs : Int32) (SC : Sta Z Z.heap "java/lang/String" "COMPACT_STRINGS" "Z" (.int cs)) (hcs : ¬ cs = (0 : Int32)) (ya : Addr) (ka : ClassId) (PA : Str Z h0 a ya ka (Int32.ofNat 2) [Value.int u0, Value.int u1]) (g0 : ¬ u0 = (47 : Int32).toInt8.toInt32) (g1 : ¬ u1 = (47 : Int32).toInt8.toInt32) :
    Pays l Z (⟨"java/lang/String", "indexOf", "(II)I"⟩ : MethodName) jdk_42_method_80_code 3 (some .int) [] ({ frames := 2, cells := 0, slots := 0, locals := 32 } : Room) #[(.ref a), (.int (47 : Int32)), (.int (0 : Int32))] h0 (fun v h L => v = some (.int (-1 : Int32)) ∧ Fr n0 L ∧ h = h0) := by
  refine Pays.walk (plainFor_of_name pn_1) (fun m => ef_7 m a (47 : Int32) (0 : Int32) ) ?_
  intro p e s m below meth c T0 X0 hx hby hml hown hnm hZ e0 hret hlk
  have N0 := Fr.nil n0
  have BA : Arf Z h0 ya .byte Value.int 2 (fun i => ([u0, u1] : List Int32).getD i 0) := Arv.arf PA.2.2.2 (by decide) (own_lt2 rfl rfl)
  refine Goes.on (T' := T0) (g' := (mkF m 1 #[.val (.ref a), .val (.int (47 : Int32)), .val (.int (0 : Int32))] [(.ref a)])) (fun _ k => XS.aloadN X0.here hx rfl (hb hby d14_0) rfl rfl k) ?_
  refine Goes.callV X0 hx hZ 0 hown (own_w hw 73 rfl) (own_w hw 74 rfl) (notFace_of_selects (args := #[]) (mvT hZ (own_w hw 76 rfl))) (own_w hw 76 rfl) (own_w hw 75 rfl) (own_w hw 13 rfl) (own_w hw 77 rfl) (by decide) e0 PA.1 (rmIl_2 l Z a0 hw a u0 u1 h0 n0 Z0 O0 cs SC hcs ya ka PA) (by decide) (by decide) (by decide) (by decide) rfl (by rw [hml]; rfl) (argsL := []) (rest := []) rfl (lenOf pd_5 rfl) rfl (by show 2 * 0 + _ ≤ _; exact Nat.le_of_eq rfl) (hb hby d14_1) ?_
  intro v1 T1 L1 X1 hQ1
  obtain ⟨rfl, N1q, e1⟩ := hQ1
  have N1 := Fr.app N0 N1q
  show Goes p e below _ T1 (mkF m 4 #[.val (.ref a), .val (.int (47 : Int32)), .val (.int (0 : Int32))] [(.int (1 : Int32))])
  refine Goes.on (T' := T1) (g' := (mkF m 8 #[.val (.ref a), .val (.int (47 : Int32)), .val (.int (0 : Int32))] [(.ref a)])) (fun _ k => XS.ifNo X1.here hx rfl (hb hby d14_4) rfl (XT.i0_eq_f (by decide)) (XS.aloadN X1.here hx rfl (hb hby d14_7) rfl rfl k)) ?_
  obtain ⟨T2, X2, e2, st2⟩ := getF X1 hx hZ hown (host := "") (Or.inl (own_w hw 38 rfl)) Via.refl e1 PA.2.2.1 (g := (mkF m 8 #[.val (.ref a), .val (.int (47 : Int32)), .val (.int (0 : Int32))] [(.ref a)])) rfl rfl (hb hby d14_8)
  refine Goes.on (T' := T2) (g' := (mkF m 14 #[.val (.ref a), .val (.int (47 : Int32)), .val (.int (0 : Int32))] [(.ref a), (.int (0 : Int32)), (.int (47 : Int32)), (.ref ya)])) (fun _ k => st2 _ (XS.iloadN X2.here hx rfl (hb hby d14_11) rfl (XS.iloadN X2.here hx rfl (hb hby d14_12) rfl (XS.aloadN X2.here hx rfl (hb hby d14_13) rfl rfl k)))) ?_
  refine Goes.callV X2 hx hZ 3 hown (own_w hw 78 rfl) (own_w hw 79 rfl) (notFace_of_selects (args := #[]) (mvT hZ (own_w hw 81 rfl))) (own_w hw 81 rfl) (own_w hw 80 rfl) (own_w hw 13 rfl) (own_w hw 82 rfl) (by decide) e2 PA.1 (rmLn_2 l Z a0 hw a u0 u1 h0 n0 Z0 O0 cs SC hcs ya ka PA) (by decide) (by decide) (by decide) (by decide) rfl (by rw [hml]; rfl) (argsL := []) (rest := [(.int (0 : Int32)), (.int (47 : Int32)), (.ref ya)]) rfl (lenOf pd_6 rfl) rfl (by show 2 * 0 + _ ≤ _; exact Nat.le_of_eq rfl) (hb hby d14_14) ?_
  intro v3 T3 L3 X3 hQ3
  obtain ⟨rfl, N3q, e3⟩ := hQ3
  have N3 := Fr.app N1 N3q
  show Goes p e below _ T3 (mkF m 17 #[.val (.ref a), .val (.int (47 : Int32)), .val (.int (0 : Int32))] [(.int (2 : Int32)), (.int (0 : Int32)), (.int (47 : Int32)), (.ref ya)])
  refine Goes.callS X3 hx hZ 0 hown (own_w hw 88 rfl) (own_w hw 89 rfl) (own_w hw 60 rfl) (own_w hw 90 rfl) (by decide) e3 (rmIl247_2 l Z a0 hw ya u0 u1 h0 n0 Z0 BA g0 g1) (by decide) (by decide) (by decide) (by decide) rfl (by rw [hml]; rfl) (argsL := [(.ref ya), (.int (47 : Int32)), (.int (0 : Int32)), (.int (2 : Int32))]) (rest := []) rfl (lenOf pd_4 rfl) rfl (by show 2 * 0 + _ ≤ _; exact Nat.le_of_eq rfl) (hb hby d14_17) ?_
  intro v4 T4 L4 X4 hQ4
  obtain ⟨rfl, N4q, e4⟩ := hQ4
  have N4 := Fr.app N3 N4q
  show Goes p e below _ T4 (mkF m 20 #[.val (.ref a), .val (.int (47 : Int32)), .val (.int (0 : Int32))] [(.int (-1 : Int32))])
  refine Goes.on (T' := T4) (g' := (mkF m 36 #[.val (.ref a), .val (.int (47 : Int32)), .val (.int (0 : Int32))] [(.int (-1 : Int32))])) (fun _ k => XS.goto X4.here hx rfl (pc0 := 20) (pc' := 36) rfl (hb hby d14_20) (by decide) (by decide) k) ?_
  exact Goes.retI X4 hx hlk hret (hb hby d14_36) (by decide) (by decide) ⟨rfl, N4, e4⟩
theorem d13_0 : decode jdk_42_method_79_code 0 = .ok (.aload_n 0, 1) := by decide +kernel
theorem d13_1 : decode jdk_42_method_79_code 1 = .ok (.iload_n 1, 1) := by decide +kernel
theorem d13_2 : decode jdk_42_method_79_code 2 = .ok (.iconst 0, 1) := by decide +kernel
theorem d13_3 : decode jdk_42_method_79_code 3 = .ok (.invokevirtual 633, 3) := by decide +kernel
theorem d13_6 : decode jdk_42_method_79_code 6 = .ok (.ireturn, 1) := by decide +kernel
theorem ef_8 (m : MethodId) (x0 : Addr) (x1 : Int32) : entryFrame m #[(.ref x0), (.int x1)] 2 = mkF m 0 #[.val (.ref x0), .val (.int x1)] [] := by first | (simp [entryFrame, mkF, argsToLocals, Value.category]; done) | rfl
set_option maxRecDepth 65536 in
set_option maxHeartbeats 40000000 in
theorem rmIx47_2 (l : Launch) (Z : State) (a0 : Array Value) (hw : ∀ d ∈ tables_1, d.before a0 Z = true) (a : Addr) (u0 u1 : Int32)  (h0 : Heap) (n0 : Nat) (Z0 : n0 ≤ h0.size) (O0 : Old Z n0 h0) (cs : Int32) (SC : Sta Z Z.heap "java/lang/String" "COMPACT_STRINGS" "Z" (.int cs)) (hcs : ¬ cs = (0 : Int32)) (ya : Addr) (ka : ClassId) (PA : Str Z h0 a ya ka (Int32.ofNat 2) [Value.int u0, Value.int u1]) (g0 : ¬ u0 = (47 : Int32).toInt8.toInt32) (g1 : ¬ u1 = (47 : Int32).toInt8.toInt32) :
    Pays l Z (⟨"java/lang/String", "indexOf", "(I)I"⟩ : MethodName) jdk_42_method_79_code 2 (some .int) [] ({ frames := 3, cells := 0, slots := 0, locals := 46 } : Room) #[(.ref a), (.int (47 : Int32))] h0 (fun v h L => v = some (.int (-1 : Int32)) ∧ Fr n0 L ∧ h = h0) := by
  refine Pays.walk (plainFor_of_name pn_1) (fun m => ef_8 m a (47 : Int32) ) ?_
  intro p e s m below meth c T0 X0 hx hby hml hown hnm hZ e0 hret hlk
  have N0 := Fr.nil n0
  have BA : Arf Z h0 ya .byte Value.int 2 (fun i => ([u0, u1] : List Int32).getD i 0) := Arv.arf PA.2.2.2 (by decide) (own_lt2 rfl rfl)
  refine Goes.on (T' := T0) (g' := (mkF m 3 #[.val (.ref a), .val (.int (47 : Int32))] [(.int (0 : Int32)), (.int (47 : Int32)), (.ref a)])) (fun _ k => XS.aloadN X0.here hx rfl (hb hby d13_0) rfl rfl (XS.iloadN X0.here hx rfl (hb hby d13_1) rfl (XS.iconst X0.here hx rfl (hb hby d13_2) k))) ?_
  refine Goes.callV X0 hx hZ 0 hown (own_w hw 68 rfl) (own_w hw 69 rfl) (notFace_of_selects (args := #[]) (mvT hZ (own_w hw 71 rfl))) (own_w hw 71 rfl) (own_w hw 70 rfl) (own_w hw 13 rfl) (own_w hw 72 rfl) (by decide) e0 PA.1 (rmI247_2 l Z a0 hw a u0 u1 h0 n0 Z0 O0 cs SC hcs ya ka PA g0 g1) (by decide) (by decide) (by decide) (by decide) rfl (by rw [hml]; rfl) (argsL := [(.int (47 : Int32)), (.int (0 : Int32))]) (rest := []) rfl (lenOf pd_3 rfl) rfl (by show 2 * 0 + _ ≤ _; exact Nat.le_of_eq rfl) (hb hby d13_3) ?_
  intro v1 T1 L1 X1 hQ1
  obtain ⟨rfl, N1q, e1⟩ := hQ1
  have N1 := Fr.app N0 N1q
  show Goes p e below _ T1 (mkF m 6 #[.val (.ref a), .val (.int (47 : Int32))] [(.int (-1 : Int32))])
  exact Goes.retI X1 hx hlk hret (hb hby d13_6) (by decide) (by decide) ⟨rfl, N1, e1⟩
set_option maxRecDepth 65536 in
set_option maxHeartbeats 40000000 in
theorem rmCE0 (l : Launch) (Z : State) (a0 : Array Value) (hw : ∀ d ∈ tables_1, d.before a0 Z = true)  (h0 : Heap) (n0 : Nat) (Z0 : n0 ≤ h0.size) :
    Pays l Z (⟨"java/lang/StringLatin1", "canEncode", "(I)Z"⟩ : MethodName) jdk_43_method_4_code 1 (some .boolean) [] ({ frames := 0, cells := 0, slots := 0, locals := 0 } : Room) #[(.int (0 : Int32))] h0 (fun v h L => v = some (.int (1 : Int32)) ∧ Fr n0 L ∧ h = h0) := by
  refine Pays.walk (plainFor_of_name pn_2) (fun m => ef_3 m (0 : Int32) ) ?_
  intro p e s m below meth c T0 X0 hx hby hml hown hnm hZ e0 hret hlk
  have N0 := Fr.nil n0
  refine Goes.on (T' := T0) (g' := (mkF m 16 #[.val (.int (0 : Int32))] [(.int (1 : Int32))])) (fun _ k => XS.iloadN X0.here hx rfl (hb hby d19_0) rfl (XS.ifNo X0.here hx rfl (hb hby d19_1) rfl (XT.i0_lt_f (by decide)) (XS.iloadN X0.here hx rfl (hb hby d19_4) rfl (XS.sipush X0.here hx rfl (hb hby d19_5) (XS.icmpNo X0.here hx rfl (hb hby d19_8) rfl (XT.ii_gt_f (by decide)) (XS.iconst X0.here hx rfl (hb hby d19_11) (XS.goto X0.here hx rfl (pc0 := 12) (pc' := 16) rfl (hb hby d19_12) (by decide) (by decide) k))))))) ?_
  exact Goes.retB X0 hx hlk hret (Or.inr rfl) (hb hby d19_16) (by decide) (by decide) ⟨rfl, N0, e0⟩
set_option maxRecDepth 65536 in
set_option maxHeartbeats 40000000 in
theorem rmIc0_2 (l : Launch) (Z : State) (a0 : Array Value) (hw : ∀ d ∈ tables_1, d.before a0 Z = true) (ya : Addr) (u0 u1 : Int32)  (h0 : Heap) (n0 : Nat) (Z0 : n0 ≤ h0.size) (BA : Arf Z h0 ya .byte Value.int 2 (fun i => ([u0, u1] : List Int32).getD i 0)) (g0 : ¬ u0 = (0 : Int32).toInt8.toInt32) (g1 : ¬ u1 = (0 : Int32).toInt8.toInt32) :
    Pays l Z (⟨"java/lang/StringLatin1", "indexOfChar", "([BIII)I"⟩ : MethodName) jdk_43_method_23_code 6 (some .int) [] ({ frames := 0, cells := 0, slots := 0, locals := 0 } : Room) #[(.ref ya), (.int (0 : Int32)), (.int (0 : Int32)), (.int (2 : Int32))] h0 (fun v h L => v = some (.int (-1 : Int32)) ∧ Fr n0 L ∧ h = h0) := by
  refine Pays.walk (plainFor_of_name pn_2) (fun m => ef_5 m ya (0 : Int32) (0 : Int32) (2 : Int32) ) ?_
  intro p e s m below meth c T0 X0 hx hby hml hown hnm hZ e0 hret hlk
  have N0 := Fr.nil n0
  refine Goes.on (T' := T0) (g' := (mkF m 19 #[.val (.ref ya), .val (.int (0 : Int32)), .val (.int (0 : Int32)), .val (.int (2 : Int32)), .val (.int ((0 : Int32).toInt8.toInt32)), .val (.int (0 : Int32))] [(.int ((0 : Int32).toInt8.toInt32)), (.int u0)])) (fun _ k => XS.iloadN X0.here hx rfl (hb hby d22_0) rfl (XS.i2b X0.here hx rfl (hb hby d22_1) rfl (XS.istore X0.here hx rfl (hb hby d22_2) rfl (l' := #[.val (.ref ya), .val (.int (0 : Int32)), .val (.int (0 : Int32)), .val (.int (2 : Int32)), .val (.int ((0 : Int32).toInt8.toInt32)), .unset]) rfl (XS.iloadN X0.here hx rfl (hb hby d22_4) rfl (XS.istore X0.here hx rfl (hb hby d22_5) rfl (l' := #[.val (.ref ya), .val (.int (0 : Int32)), .val (.int (0 : Int32)), .val (.int (2 : Int32)), .val (.int ((0 : Int32).toInt8.toInt32)), .val (.int (0 : Int32))]) rfl (XS.iload X0.here hx rfl (hb hby d22_7) rfl (XS.iloadN X0.here hx rfl (hb hby d22_9) rfl (XS.icmpNo X0.here hx rfl (hb hby d22_10) rfl (XT.ii_ge_f (by decide)) (XS.aloadN X0.here hx rfl (hb hby d22_13) rfl rfl (XS.iload X0.here hx rfl (hb hby d22_14) rfl (ldYm X0 hx hZ e0 BA (by decide) (hb hby d22_16) (XS.iload X0.here hx rfl (hb hby d22_17) rfl k)))))))))))) ?_
  refine Goes.on (T' := T0) (g' := (mkF m 28 #[.val (.ref ya), .val (.int (0 : Int32)), .val (.int (0 : Int32)), .val (.int (2 : Int32)), .val (.int ((0 : Int32).toInt8.toInt32)), .val (.int (2 : Int32))] [])) (fun _ k => XS.icmpYes X0.here hx rfl (pc0 := 19) (pc' := 25) rfl (hb hby d22_19) rfl (XT.ii_ne_t g0) (by decide) (by decide) (XT.iincV X0.here hx rfl (1 : Int32) (hb hby d22_25) (by decide) rfl (l' := #[.val (.ref ya), .val (.int (0 : Int32)), .val (.int (0 : Int32)), .val (.int (2 : Int32)), .val (.int ((0 : Int32).toInt8.toInt32)), .val (.int (1 : Int32))]) rfl (XS.goto X0.here hx rfl (pc0 := 28) (pc' := 7) rfl (hb hby d22_28) (by decide) (by decide) (XS.iload X0.here hx rfl (hb hby d22_7) rfl (XS.iloadN X0.here hx rfl (hb hby d22_9) rfl (XS.icmpNo X0.here hx rfl (hb hby d22_10) rfl (XT.ii_ge_f (by decide)) (XS.aloadN X0.here hx rfl (hb hby d22_13) rfl rfl (XS.iload X0.here hx rfl (hb hby d22_14) rfl (ldYm X0 hx hZ e0 BA (by decide) (hb hby d22_16) (XS.iload X0.here hx rfl (hb hby d22_17) rfl (XS.icmpYes X0.here hx rfl (pc0 := 19) (pc' := 25) rfl (hb hby d22_19) rfl (XT.ii_ne_t g1) (by decide) (by decide) (XT.iincV X0.here hx rfl (1 : Int32) (hb hby d22_25) (by decide) rfl (l' := #[.val (.ref ya), .val (.int (0 : Int32)), .val (.int (0 : Int32)), .val (.int (2 : Int32)), .val (.int ((0 : Int32).toInt8.toInt32)), .val (.int (2 : Int32))]) rfl k)))))))))))) ?_
  refine Goes.on (T' := T0) (g' := (mkF m 32 #[.val (.ref ya), .val (.int (0 : Int32)), .val (.int (0 : Int32)), .val (.int (2 : Int32)), .val (.int ((0 : Int32).toInt8.toInt32)), .val (.int (2 : Int32))] [(.int (-1 : Int32))])) (fun _ k => XS.goto X0.here hx rfl (pc0 := 28) (pc' := 7) rfl (hb hby d22_28) (by decide) (by decide) (XS.iload X0.here hx rfl (hb hby d22_7) rfl (XS.iloadN X0.here hx rfl (hb hby d22_9) rfl (XS.icmpYes X0.here hx rfl (pc0 := 10) (pc' := 31) rfl (hb hby d22_10) rfl (XT.ii_ge_t (by decide)) (by decide) (by decide) (XS.iconst X0.here hx rfl (hb hby d22_31) k))))) ?_
  exact Goes.retI X0 hx hlk hret (hb hby d22_32) (by decide) (by decide) ⟨rfl, N0, e0⟩
set_option maxRecDepth 65536 in
set_option maxHeartbeats 40000000 in
theorem rmIl20_2 (l : Launch) (Z : State) (a0 : Array Value) (hw : ∀ d ∈ tables_1, d.before a0 Z = true) (ya : Addr) (u0 u1 : Int32)  (h0 : Heap) (n0 : Nat) (Z0 : n0 ≤ h0.size) (BA : Arf Z h0 ya .byte Value.int 2 (fun i => ([u0, u1] : List Int32).getD i 0)) (g0 : ¬ u0 = (0 : Int32).toInt8.toInt32) (g1 : ¬ u1 = (0 : Int32).toInt8.toInt32) :
    Pays l Z (⟨"java/lang/StringLatin1", "indexOf", "([BIII)I"⟩ : MethodName) jdk_43_method_22_code 4 (some .int) [] ({ frames := 1, cells := 0, slots := 0, locals := 17 } : Room) #[(.ref ya), (.int (0 : Int32)), (.int (0 : Int32)), (.int (2 : Int32))] h0 (fun v h L => v = some (.int (-1 : Int32)) ∧ Fr n0 L ∧ h = h0) := by
  refine Pays.walk (plainFor_of_name pn_2) (fun m => ef_6 m ya (0 : Int32) (0 : Int32) (2 : Int32) ) ?_
  intro p e s m below meth c T0 X0 hx hby hml hown hnm hZ e0 hret hlk
  have N0 := Fr.nil n0
  refine Goes.on (T' := T0) (g' := (mkF m 1 #[.val (.ref ya), .val (.int (0 : Int32)), .val (.int (0 : Int32)), .val (.int (2 : Int32))] [(.int (0 : Int32))])) (fun _ k => XS.iloadN X0.here hx rfl (hb hby d18_0) rfl k) ?_
  refine Goes.callS X0 hx hZ 0 hown (own_w hw 91 rfl) (own_w hw 92 rfl) (own_w hw 60 rfl) (own_w hw 93 rfl) (by decide) e0 (rmCE0 l Z a0 hw h0 n0 Z0) (by decide) (by decide) (by decide) (by decide) rfl (by rw [hml]; rfl) (argsL := [(.int (0 : Int32))]) (rest := []) rfl (lenOf pd_2 rfl) rfl (by show 2 * 0 + _ ≤ _; exact Nat.le_of_eq rfl) (hb hby d18_1) ?_
  intro v1 T1 L1 X1 hQ1
  obtain ⟨rfl, N1q, e1⟩ := hQ1
  have N1 := Fr.app N0 N1q
  show Goes p e below _ T1 (mkF m 4 #[.val (.ref ya), .val (.int (0 : Int32)), .val (.int (0 : Int32)), .val (.int (2 : Int32))] [(.int (1 : Int32))])
  refine Goes.on (T' := T1) (g' := (mkF m 11 #[.val (.ref ya), .val (.int (0 : Int32)), .val (.int (0 : Int32)), .val (.int (2 : Int32))] [(.int (0 : Int32)), (.int (0 : Int32))])) (fun _ k => XS.ifYes X1.here hx rfl (pc0 := 4) (pc' := 9) rfl (hb hby d18_4) rfl (XT.i0_ne_t (by decide)) (by decide) (by decide) (XS.iloadN X1.here hx rfl (hb hby d18_9) rfl (XS.iconst X1.here hx rfl (hb hby d18_10) k))) ?_
  refine Goes.callS X1 hx hZ 0 hown (own_w hw 94 rfl) (own_w hw 95 rfl) (own_w hw 96 rfl) (own_w hw 97 rfl) (by decide) e1 (rmMx l Z a0 hw h0 n0 Z0) (by decide) (by decide) (by decide) (by decide) rfl (by rw [hml]; rfl) (argsL := [(.int (0 : Int32)), (.int (0 : Int32))]) (rest := []) rfl (lenOf pd_3 rfl) rfl (by show 2 * 0 + _ ≤ _; exact Nat.le_of_eq rfl) (hb hby d18_11) ?_
  intro v2 T2 L2 X2 hQ2
  obtain ⟨rfl, N2q, e2⟩ := hQ2
  have N2 := Fr.app N1 N2q
  show Goes p e below _ T2 (mkF m 14 #[.val (.ref ya), .val (.int (0 : Int32)), .val (.int (0 : Int32)), .val (.int (2 : Int32))] [(.int (0 : Int32))])
  refine Goes.on (T' := T2) (g' := (mkF m 18 #[.val (.ref ya), .val (.int (0 : Int32)), .val (.int (0 : Int32)), .val (.int (2 : Int32))] [(.int (2 : Int32)), (.int (2 : Int32))])) (fun _ k => XS.istoreN X2.here hx rfl (hb hby d18_14) rfl (l' := #[.val (.ref ya), .val (.int (0 : Int32)), .val (.int (0 : Int32)), .val (.int (2 : Int32))]) rfl (XS.iloadN X2.here hx rfl (hb hby d18_15) rfl (XS.aloadN X2.here hx rfl (hb hby d18_16) rfl rfl (aLenm X2 hx hZ e2 BA (hb hby d18_17) k)))) ?_
  refine Goes.callS X2 hx hZ 0 hown (own_w hw 98 rfl) (own_w hw 99 rfl) (own_w hw 96 rfl) (own_w hw 100 rfl) (by decide) e2 (rmMn2 l Z a0 hw h0 n0 Z0) (by decide) (by decide) (by decide) (by decide) rfl (by rw [hml]; rfl) (argsL := [(.int (2 : Int32)), (.int (2 : Int32))]) (rest := []) rfl (lenOf pd_3 rfl) rfl (by show 2 * 0 + _ ≤ _; exact Nat.le_of_eq rfl) (hb hby d18_18) ?_
  intro v4 T4 L4 X4 hQ4
  obtain ⟨rfl, N4q, e4⟩ := hQ4
  have N4 := Fr.app N2 N4q
  show Goes p e below _ T4 (mkF m 21 #[.val (.ref ya), .val (.int (0 : Int32)), .val (.int (0 : Int32)), .val (.int (2 : Int32))] [(.int (2 : Int32))])
  refine Goes.on (T' := T4) (g' := (mkF m 33 #[.val (.ref ya), .val (.int (0 : Int32)), .val (.int (0 : Int32)), .val (.int (2 : Int32))] [(.int (2 : Int32)), (.int (0 : Int32)), (.int (0 : Int32)), (.ref ya)])) (fun _ k => XS.istoreN X4.here hx rfl (hb hby d18_21) rfl (l' := #[.val (.ref ya), .val (.int (0 : Int32)), .val (.int (0 : Int32)), .val (.int (2 : Int32))]) rfl (XS.iloadN X4.here hx rfl (hb hby d18_22) rfl (XS.iloadN X4.here hx rfl (hb hby d18_23) rfl (XS.icmpYes X4.here hx rfl (pc0 := 24) (pc' := 29) rfl (hb hby d18_24) rfl (XT.ii_lt_t (by decide)) (by decide) (by decide) (XS.aloadN X4.here hx rfl (hb hby d18_29) rfl rfl (XS.iloadN X4.here hx rfl (hb hby d18_30) rfl (XS.iloadN X4.here hx rfl (hb hby d18_31) rfl (XS.iloadN X4.here hx rfl (hb hby d18_32) rfl k)))))))) ?_
  refine Goes.callS X4 hx hZ 0 hown (own_w hw 101 rfl) (own_w hw 102 rfl) (own_w hw 60 rfl) (own_w hw 103 rfl) (by decide) e4 (rmIc0_2 l Z a0 hw ya u0 u1 h0 n0 Z0 BA g0 g1) (by decide) (by decide) (by decide) (by decide) rfl (by rw [hml]; rfl) (argsL := [(.ref ya), (.int (0 : Int32)), (.int (0 : Int32)), (.int (2 : Int32))]) (rest := []) rfl (lenOf pd_4 rfl) rfl (by show 2 * 0 + _ ≤ _; exact Nat.le_of_eq rfl) (hb hby d18_33) ?_
  intro v5 T5 L5 X5 hQ5
  obtain ⟨rfl, N5q, e5⟩ := hQ5
  have N5 := Fr.app N4 N5q
  show Goes p e below _ T5 (mkF m 36 #[.val (.ref ya), .val (.int (0 : Int32)), .val (.int (0 : Int32)), .val (.int (2 : Int32))] [(.int (-1 : Int32))])
  exact Goes.retI X5 hx hlk hret (hb hby d18_36) (by decide) (by decide) ⟨rfl, N5, e5⟩
set_option maxRecDepth 65536 in
set_option maxHeartbeats 40000000 in
theorem rmI20_2 (l : Launch) (Z : State) (a0 : Array Value) (hw : ∀ d ∈ tables_1, d.before a0 Z = true) (a : Addr) (u0 u1 : Int32)  (h0 : Heap) (n0 : Nat) (Z0 : n0 ≤ h0.size) (O0 : Old Z n0 h0) (cs : Int32) (SC : Sta Z Z.heap "java/lang/String" "COMPACT_STRINGS" "Z" (.int cs)) (hcs : ¬ cs = (0 : Int32)) (ya : Addr) (ka : ClassId) (PA : Str Z h0 a ya ka (Int32.ofNat 2) [Value.int u0, Value.int u1]) (g0 : ¬ u0 = (0 : Int32).toInt8.toInt32) (g1 : ¬ u1 = (0 : Int32).toInt8.toInt32) :
    Pays l Z (⟨"java/lang/String", "indexOf", "(II)I"⟩ : MethodName) jdk_42_method_80_code 3 (some .int) [] ({ frames := 2, cells := 0, slots := 0, locals := 32 } : Room) #[(.ref a), (.int (0 : Int32)), (.int (0 : Int32))] h0 (fun v h L => v = some (.int (-1 : Int32)) ∧ Fr n0 L ∧ h = h0) := by
  refine Pays.walk (plainFor_of_name pn_1) (fun m => ef_7 m a (0 : Int32) (0 : Int32) ) ?_
  intro p e s m below meth c T0 X0 hx hby hml hown hnm hZ e0 hret hlk
  have N0 := Fr.nil n0
  have BA : Arf Z h0 ya .byte Value.int 2 (fun i => ([u0, u1] : List Int32).getD i 0) := Arv.arf PA.2.2.2 (by decide) (own_lt2 rfl rfl)
  refine Goes.on (T' := T0) (g' := (mkF m 1 #[.val (.ref a), .val (.int (0 : Int32)), .val (.int (0 : Int32))] [(.ref a)])) (fun _ k => XS.aloadN X0.here hx rfl (hb hby d14_0) rfl rfl k) ?_
  refine Goes.callV X0 hx hZ 0 hown (own_w hw 73 rfl) (own_w hw 74 rfl) (notFace_of_selects (args := #[]) (mvT hZ (own_w hw 76 rfl))) (own_w hw 76 rfl) (own_w hw 75 rfl) (own_w hw 13 rfl) (own_w hw 77 rfl) (by decide) e0 PA.1 (rmIl_2 l Z a0 hw a u0 u1 h0 n0 Z0 O0 cs SC hcs ya ka PA) (by decide) (by decide) (by decide) (by decide) rfl (by rw [hml]; rfl) (argsL := []) (rest := []) rfl (lenOf pd_5 rfl) rfl (by show 2 * 0 + _ ≤ _; exact Nat.le_of_eq rfl) (hb hby d14_1) ?_
  intro v1 T1 L1 X1 hQ1
  obtain ⟨rfl, N1q, e1⟩ := hQ1
  have N1 := Fr.app N0 N1q
  show Goes p e below _ T1 (mkF m 4 #[.val (.ref a), .val (.int (0 : Int32)), .val (.int (0 : Int32))] [(.int (1 : Int32))])
  refine Goes.on (T' := T1) (g' := (mkF m 8 #[.val (.ref a), .val (.int (0 : Int32)), .val (.int (0 : Int32))] [(.ref a)])) (fun _ k => XS.ifNo X1.here hx rfl (hb hby d14_4) rfl (XT.i0_eq_f (by decide)) (XS.aloadN X1.here hx rfl (hb hby d14_7) rfl rfl k)) ?_
  obtain ⟨T2, X2, e2, st2⟩ := getF X1 hx hZ hown (host := "") (Or.inl (own_w hw 38 rfl)) Via.refl e1 PA.2.2.1 (g := (mkF m 8 #[.val (.ref a), .val (.int (0 : Int32)), .val (.int (0 : Int32))] [(.ref a)])) rfl rfl (hb hby d14_8)
  refine Goes.on (T' := T2) (g' := (mkF m 14 #[.val (.ref a), .val (.int (0 : Int32)), .val (.int (0 : Int32))] [(.ref a), (.int (0 : Int32)), (.int (0 : Int32)), (.ref ya)])) (fun _ k => st2 _ (XS.iloadN X2.here hx rfl (hb hby d14_11) rfl (XS.iloadN X2.here hx rfl (hb hby d14_12) rfl (XS.aloadN X2.here hx rfl (hb hby d14_13) rfl rfl k)))) ?_
  refine Goes.callV X2 hx hZ 3 hown (own_w hw 78 rfl) (own_w hw 79 rfl) (notFace_of_selects (args := #[]) (mvT hZ (own_w hw 81 rfl))) (own_w hw 81 rfl) (own_w hw 80 rfl) (own_w hw 13 rfl) (own_w hw 82 rfl) (by decide) e2 PA.1 (rmLn_2 l Z a0 hw a u0 u1 h0 n0 Z0 O0 cs SC hcs ya ka PA) (by decide) (by decide) (by decide) (by decide) rfl (by rw [hml]; rfl) (argsL := []) (rest := [(.int (0 : Int32)), (.int (0 : Int32)), (.ref ya)]) rfl (lenOf pd_6 rfl) rfl (by show 2 * 0 + _ ≤ _; exact Nat.le_of_eq rfl) (hb hby d14_14) ?_
  intro v3 T3 L3 X3 hQ3
  obtain ⟨rfl, N3q, e3⟩ := hQ3
  have N3 := Fr.app N1 N3q
  show Goes p e below _ T3 (mkF m 17 #[.val (.ref a), .val (.int (0 : Int32)), .val (.int (0 : Int32))] [(.int (2 : Int32)), (.int (0 : Int32)), (.int (0 : Int32)), (.ref ya)])
  refine Goes.callS X3 hx hZ 0 hown (own_w hw 88 rfl) (own_w hw 89 rfl) (own_w hw 60 rfl) (own_w hw 90 rfl) (by decide) e3 (rmIl20_2 l Z a0 hw ya u0 u1 h0 n0 Z0 BA g0 g1) (by decide) (by decide) (by decide) (by decide) rfl (by rw [hml]; rfl) (argsL := [(.ref ya), (.int (0 : Int32)), (.int (0 : Int32)), (.int (2 : Int32))]) (rest := []) rfl (lenOf pd_4 rfl) rfl (by show 2 * 0 + _ ≤ _; exact Nat.le_of_eq rfl) (hb hby d14_17) ?_
  intro v4 T4 L4 X4 hQ4
  obtain ⟨rfl, N4q, e4⟩ := hQ4
  have N4 := Fr.app N3 N4q
  show Goes p e below _ T4 (mkF m 20 #[.val (.ref a), .val (.int (0 : Int32)), .val (.int (0 : Int32))] [(.int (-1 : Int32))])
  refine Goes.on (T' := T4) (g' := (mkF m 36 #[.val (.ref a), .val (.int (0 : Int32)), .val (.int (0 : Int32))] [(.int (-1 : Int32))])) (fun _ k => XS.goto X4.here hx rfl (pc0 := 20) (pc' := 36) rfl (hb hby d14_20) (by decide) (by decide) k) ?_
  exact Goes.retI X4 hx hlk hret (hb hby d14_36) (by decide) (by decide) ⟨rfl, N4, e4⟩
set_option maxRecDepth 65536 in
set_option maxHeartbeats 40000000 in
theorem rmIx0_2 (l : Launch) (Z : State) (a0 : Array Value) (hw : ∀ d ∈ tables_1, d.before a0 Z = true) (a : Addr) (u0 u1 : Int32)  (h0 : Heap) (n0 : Nat) (Z0 : n0 ≤ h0.size) (O0 : Old Z n0 h0) (cs : Int32) (SC : Sta Z Z.heap "java/lang/String" "COMPACT_STRINGS" "Z" (.int cs)) (hcs : ¬ cs = (0 : Int32)) (ya : Addr) (ka : ClassId) (PA : Str Z h0 a ya ka (Int32.ofNat 2) [Value.int u0, Value.int u1]) (g0 : ¬ u0 = (0 : Int32).toInt8.toInt32) (g1 : ¬ u1 = (0 : Int32).toInt8.toInt32) :
    Pays l Z (⟨"java/lang/String", "indexOf", "(I)I"⟩ : MethodName) jdk_42_method_79_code 2 (some .int) [] ({ frames := 3, cells := 0, slots := 0, locals := 46 } : Room) #[(.ref a), (.int (0 : Int32))] h0 (fun v h L => v = some (.int (-1 : Int32)) ∧ Fr n0 L ∧ h = h0) := by
  refine Pays.walk (plainFor_of_name pn_1) (fun m => ef_8 m a (0 : Int32) ) ?_
  intro p e s m below meth c T0 X0 hx hby hml hown hnm hZ e0 hret hlk
  have N0 := Fr.nil n0
  have BA : Arf Z h0 ya .byte Value.int 2 (fun i => ([u0, u1] : List Int32).getD i 0) := Arv.arf PA.2.2.2 (by decide) (own_lt2 rfl rfl)
  refine Goes.on (T' := T0) (g' := (mkF m 3 #[.val (.ref a), .val (.int (0 : Int32))] [(.int (0 : Int32)), (.int (0 : Int32)), (.ref a)])) (fun _ k => XS.aloadN X0.here hx rfl (hb hby d13_0) rfl rfl (XS.iloadN X0.here hx rfl (hb hby d13_1) rfl (XS.iconst X0.here hx rfl (hb hby d13_2) k))) ?_
  refine Goes.callV X0 hx hZ 0 hown (own_w hw 68 rfl) (own_w hw 69 rfl) (notFace_of_selects (args := #[]) (mvT hZ (own_w hw 71 rfl))) (own_w hw 71 rfl) (own_w hw 70 rfl) (own_w hw 13 rfl) (own_w hw 72 rfl) (by decide) e0 PA.1 (rmI20_2 l Z a0 hw a u0 u1 h0 n0 Z0 O0 cs SC hcs ya ka PA g0 g1) (by decide) (by decide) (by decide) (by decide) rfl (by rw [hml]; rfl) (argsL := [(.int (0 : Int32)), (.int (0 : Int32))]) (rest := []) rfl (lenOf pd_3 rfl) rfl (by show 2 * 0 + _ ≤ _; exact Nat.le_of_eq rfl) (hb hby d13_3) ?_
  intro v1 T1 L1 X1 hQ1
  obtain ⟨rfl, N1q, e1⟩ := hQ1
  have N1 := Fr.app N0 N1q
  show Goes p e below _ T1 (mkF m 6 #[.val (.ref a), .val (.int (0 : Int32))] [(.int (-1 : Int32))])
  exact Goes.retI X1 hx hlk hret (hb hby d13_6) (by decide) (by decide) ⟨rfl, N1, e1⟩
theorem d12_0 : decode jdk_43_method_13_code 0 = .ok (.aload_n 0, 1) := by decide +kernel
theorem d12_1 : decode jdk_43_method_13_code 1 = .ok (.arraylength, 1) := by decide +kernel
theorem d12_2 : decode jdk_43_method_13_code 2 = .ok (.aload_n 1, 1) := by decide +kernel
theorem d12_3 : decode jdk_43_method_13_code 3 = .ok (.arraylength, 1) := by decide +kernel
theorem d12_4 : decode jdk_43_method_13_code 4 = .ok (.if_icmp .ne 30, 3) := by decide +kernel
theorem d12_34 : decode jdk_43_method_13_code 34 = .ok (.iconst 0, 1) := by decide +kernel
theorem d12_35 : decode jdk_43_method_13_code 35 = .ok (.ireturn, 1) := by decide +kernel
theorem ef_9 (m : MethodId) (x0 : Addr) (x1 : Addr) : entryFrame m #[(.ref x0), (.ref x1)] 3 = mkF m 0 #[.val (.ref x0), .val (.ref x1), .unset] [] := by first | (simp [entryFrame, mkF, argsToLocals, Value.category]; done) | rfl
set_option maxRecDepth 65536 in
set_option maxHeartbeats 40000000 in
theorem rmLed1_2 (l : Launch) (Z : State) (a0 : Array Value) (hw : ∀ d ∈ tables_1, d.before a0 Z = true) (a b : Addr) (u0 u1 : Int32)  (h0 : Heap) (n0 : Nat) (Z0 : n0 ≤ h0.size) (B0 : Arf Z h0 a .byte Value.int 2 (fun i => ([u0, u1] : List Int32).getD i 0)) (B1 : Arf Z h0 b .byte Value.int 1 (fun i => ([(46 : Int32)] : List Int32).getD i 0)) (z : Int32) (hz : z = 0 ∨ z = 1) (hP : z = 1 ↔ False) :
    Pays l Z (⟨"java/lang/StringLatin1", "equals", "([B[B)Z"⟩ : MethodName) jdk_43_method_13_code 3 (some .boolean) [] ({ frames := 0, cells := 0, slots := 0, locals := 0 } : Room) #[(.ref a), (.ref b)] h0 (fun v h L => v = some (.int z) ∧ Fr n0 L ∧ h = h0) := by
  refine Pays.walk (plainFor_of_name pn_2) (fun m => ef_9 m a b ) ?_
  intro p e s m below meth c T0 X0 hx hby hml hown hnm hZ e0 hret hlk
  have N0 := Fr.nil n0
  refine Goes.on (T' := T0) (g' := (mkF m 35 #[.val (.ref a), .val (.ref b), .unset] [(.int (0 : Int32))])) (fun _ k => XS.aloadN X0.here hx rfl (hb hby d12_0) rfl rfl (aLenm X0 hx hZ e0 B0 (hb hby d12_1) (XS.aloadN X0.here hx rfl (hb hby d12_2) rfl rfl (aLenm X0 hx hZ e0 B1 (hb hby d12_3) (XS.icmpYes X0.here hx rfl (pc0 := 4) (pc' := 34) rfl (hb hby d12_4) rfl (XT.ii_ne_t (by decide)) (by decide) (by decide) (XS.iconst X0.here hx rfl (hb hby d12_34) k)))))) ?_
  exact Goes.retB X0 hx hlk hret (Or.inl rfl) (hb hby d12_35) (by decide) (by decide) ⟨own_is0 hz hP (fun q => q), N0, e0⟩
theorem d11_0 : decode jdk_42_method_66_code 0 = .ok (.aload_n 0, 1) := by decide +kernel
theorem d11_1 : decode jdk_42_method_66_code 1 = .ok (.aload_n 1, 1) := by decide +kernel
theorem d11_2 : decode jdk_42_method_66_code 2 = .ok (.if_acmp .ne 5, 3) := by decide +kernel
theorem d11_5 : decode jdk_42_method_66_code 5 = .ok (.iconst 1, 1) := by decide +kernel
theorem d11_6 : decode jdk_42_method_66_code 6 = .ok (.ireturn, 1) := by decide +kernel
theorem d11_7 : decode jdk_42_method_66_code 7 = .ok (.aload_n 1, 1) := by decide +kernel
theorem d11_8 : decode jdk_42_method_66_code 8 = .ok (.instanceof 10, 3) := by decide +kernel
theorem d11_11 : decode jdk_42_method_66_code 11 = .ok (.ifCond .eq 43, 3) := by decide +kernel
theorem d11_14 : decode jdk_42_method_66_code 14 = .ok (.aload_n 1, 1) := by decide +kernel
theorem d11_15 : decode jdk_42_method_66_code 15 = .ok (.checkcast 10, 3) := by decide +kernel
theorem d11_18 : decode jdk_42_method_66_code 18 = .ok (.astore_n 2, 1) := by decide +kernel
theorem d11_19 : decode jdk_42_method_66_code 19 = .ok (.getstatic 38, 3) := by decide +kernel
theorem d11_22 : decode jdk_42_method_66_code 22 = .ok (.ifCond .eq 14, 3) := by decide +kernel
theorem d11_25 : decode jdk_42_method_66_code 25 = .ok (.aload_n 0, 1) := by decide +kernel
theorem d11_26 : decode jdk_42_method_66_code 26 = .ok (.getfield 15, 3) := by decide +kernel
theorem d11_29 : decode jdk_42_method_66_code 29 = .ok (.aload_n 2, 1) := by decide +kernel
theorem d11_30 : decode jdk_42_method_66_code 30 = .ok (.getfield 15, 3) := by decide +kernel
theorem d11_33 : decode jdk_42_method_66_code 33 = .ok (.if_icmp .ne 21, 3) := by decide +kernel
theorem d11_36 : decode jdk_42_method_66_code 36 = .ok (.aload_n 0, 1) := by decide +kernel
theorem d11_37 : decode jdk_42_method_66_code 37 = .ok (.getfield 9, 3) := by decide +kernel
theorem d11_40 : decode jdk_42_method_66_code 40 = .ok (.aload_n 2, 1) := by decide +kernel
theorem d11_41 : decode jdk_42_method_66_code 41 = .ok (.getfield 9, 3) := by decide +kernel
theorem pd_7 : parseMethodDescriptor "([B[B)Z" = some ⟨[(.array .byte), (.array .byte)], some .boolean⟩ := by decide +kernel
theorem d11_44 : decode jdk_42_method_66_code 44 = .ok (.invokestatic 541, 3) := by decide +kernel
theorem d11_47 : decode jdk_42_method_66_code 47 = .ok (.ifCond .eq 7, 3) := by decide +kernel
theorem d11_54 : decode jdk_42_method_66_code 54 = .ok (.iconst 0, 1) := by decide +kernel
theorem d11_55 : decode jdk_42_method_66_code 55 = .ok (.ireturn, 1) := by decide +kernel
theorem d11_50 : decode jdk_42_method_66_code 50 = .ok (.iconst 1, 1) := by decide +kernel
theorem d11_51 : decode jdk_42_method_66_code 51 = .ok (.goto 4, 3) := by decide +kernel
set_option maxRecDepth 65536 in
set_option maxHeartbeats 40000000 in
theorem rmEqd1_2 (l : Launch) (Z : State) (a0 : Array Value) (hw : ∀ d ∈ tables_1, d.before a0 Z = true) (a b : Addr) (u0 u1 : Int32)  (h0 : Heap) (n0 : Nat) (Z0 : n0 ≤ h0.size) (O0 : Old Z n0 h0) (cs : Int32) (SC : Sta Z Z.heap "java/lang/String" "COMPACT_STRINGS" "Z" (.int cs)) (hcs : ¬ cs = (0 : Int32)) (ya yb : Addr) (ka kb : ClassId) (PA : Str Z h0 a ya ka (Int32.ofNat 2) [Value.int u0, Value.int u1]) (PB : Str Z h0 b yb kb (Int32.ofNat 1) [Value.int (46 : Int32)]) (z : Int32) (hz : z = 0 ∨ z = 1) (hP : z = 1 ↔ False) :
    Pays l Z (⟨"java/lang/String", "equals", "(Ljava/lang/Object;)Z"⟩ : MethodName) jdk_42_method_66_code 3 (some .boolean) [] ({ frames := 1, cells := 0, slots := 0, locals := 14 } : Room) #[(.ref a), (.ref b)] h0 (fun v h L => v = some (.int z) ∧ Fr n0 L ∧ h = h0) := by
  refine Pays.walk (plainFor_of_name pn_1) (fun m => ef_9 m a b ) ?_
  intro p e s m below meth c T0 X0 hx hby hml hown hnm hZ e0 hret hlk
  have N0 := Fr.nil n0
  have BA : Arf Z h0 ya .byte Value.int 2 (fun i => ([u0, u1] : List Int32).getD i 0) := Arv.arf PA.2.2.2 (by decide) (own_lt2 rfl rfl)
  have BB : Arf Z h0 yb .byte Value.int 1 (fun i => ([(46 : Int32)] : List Int32).getD i 0) := Arv.arf PB.2.2.2 (by decide) (own_lt1 rfl)
  refine Goes.on (T' := T0) (g' := (mkF m 2 #[.val (.ref a), .val (.ref b), .unset] [(.ref b), (.ref a)])) (fun _ k => XS.aloadN X0.here hx rfl (hb hby d11_0) rfl rfl (XS.aloadN X0.here hx rfl (hb hby d11_1) rfl rfl k)) ?_
  by_cases hc1 : ((.ref a) : Value) = (.ref b)
  · refine Goes.on (T' := T0) (g' := (mkF m 6 #[.val (.ref a), .val (.ref b), .unset] [(.int (1 : Int32))])) (fun _ k => XT.acmpNo X0.here hx rfl (hb hby d11_2) rfl rfl rfl (XT.aa_ne_f hc1) (XS.iconst X0.here hx rfl (hb hby d11_5) k)) ?_
    exact Goes.retB X0 hx hlk hret (Or.inr rfl) (hb hby d11_6) (by decide) (by decide) ⟨own_is1 hP (absurd (own_same PA PB (Value.ref.inj hc1) (n := 2) (by decide)).1 (by decide)), N0, e0⟩
  · refine Goes.on (T' := T0) (g' := (mkF m 8 #[.val (.ref a), .val (.ref b), .unset] [(.ref b)])) (fun _ k => XT.acmpYes X0.here hx rfl (pc0 := 2) (pc' := 7) rfl (hb hby d11_2) rfl rfl rfl (XT.aa_ne_t hc1) (by decide) (by decide) (XS.aloadN X0.here hx rfl (hb hby d11_7) rfl rfl k)) ?_
    obtain ⟨T2, X2, e2, st2⟩ := instY X0 hx hZ hown (own_w hw 57 rfl) e0 (Ins.self PB.1) (g := (mkF m 8 #[.val (.ref a), .val (.ref b), .unset] [(.ref b)])) rfl rfl (hb hby d11_8)
    refine Goes.on (T' := T2) (g' := (mkF m 15 #[.val (.ref a), .val (.ref b), .unset] [(.ref b)])) (fun _ k => st2 _ (XS.ifNo X2.here hx rfl (hb hby d11_11) rfl (XT.i0_eq_f (by decide)) (XS.aloadN X2.here hx rfl (hb hby d11_14) rfl rfl k))) ?_
    obtain ⟨T3, X3, e3, st3⟩ := castY X2 hx hZ hown (own_w hw 57 rfl) e2 (Ins.self PB.1) (g := (mkF m 15 #[.val (.ref a), .val (.ref b), .unset] [(.ref b)])) rfl rfl (hb hby d11_15)
    refine Goes.on (T' := T3) (g' := (mkF m 19 #[.val (.ref a), .val (.ref b), .val (.ref b)] [])) (fun _ k => st3 _ (XS.astoreN X3.here hx rfl (hb hby d11_18) rfl rfl (l' := #[.val (.ref a), .val (.ref b), .val (.ref b)]) rfl k)) ?_
    obtain ⟨T4, X4, e4, st4⟩ := getS (host := "") X3 hx hZ hown (own_w hw 24 rfl) Via.refl e3 (Sta.ext O0.2 SC) (g := (mkF m 19 #[.val (.ref a), .val (.ref b), .val (.ref b)] [])) rfl (hb hby d11_19)
    refine Goes.on (T' := T4) (g' := (mkF m 26 #[.val (.ref a), .val (.ref b), .val (.ref b)] [(.ref a)])) (fun _ k => st4 _ (XS.ifNo X4.here hx rfl (hb hby d11_22) rfl (XT.i0_eq_f hcs) (XS.aloadN X4.here hx rfl (hb hby d11_25) rfl rfl k))) ?_
    obtain ⟨T5, X5, e5, st5⟩ := getF X4 hx hZ hown (host := "") (Or.inl (own_w hw 36 rfl)) Via.refl e4 PA.2.1 (g := (mkF m 26 #[.val (.ref a), .val (.ref b), .val (.ref b)] [(.ref a)])) rfl rfl (hb hby d11_26)
    refine Goes.on (T' := T5) (g' := (mkF m 30 #[.val (.ref a), .val (.ref b), .val (.ref b)] [(.ref b), (.int (0 : Int32))])) (fun _ k => st5 _ (XS.aloadN X5.here hx rfl (hb hby d11_29) rfl rfl k)) ?_
    obtain ⟨T6, X6, e6, st6⟩ := getF X5 hx hZ hown (host := "") (Or.inl (own_w hw 36 rfl)) Via.refl e5 PB.2.1 (g := (mkF m 30 #[.val (.ref a), .val (.ref b), .val (.ref b)] [(.ref b), (.int (0 : Int32))])) rfl rfl (hb hby d11_30)
    refine Goes.on (T' := T6) (g' := (mkF m 37 #[.val (.ref a), .val (.ref b), .val (.ref b)] [(.ref a)])) (fun _ k => st6 _ (XS.icmpNo X6.here hx rfl (hb hby d11_33) rfl (XT.ii_ne_f (by decide)) (XS.aloadN X6.here hx rfl (hb hby d11_36) rfl rfl k))) ?_
    obtain ⟨T7, X7, e7, st7⟩ := getF X6 hx hZ hown (host := "") (Or.inl (own_w hw 38 rfl)) Via.refl e6 PA.2.2.1 (g := (mkF m 37 #[.val (.ref a), .val (.ref b), .val (.ref b)] [(.ref a)])) rfl rfl (hb hby d11_37)
    refine Goes.on (T' := T7) (g' := (mkF m 41 #[.val (.ref a), .val (.ref b), .val (.ref b)] [(.ref b), (.ref ya)])) (fun _ k => st7 _ (XS.aloadN X7.here hx rfl (hb hby d11_40) rfl rfl k)) ?_
    obtain ⟨T8, X8, e8, st8⟩ := getF X7 hx hZ hown (host := "") (Or.inl (own_w hw 38 rfl)) Via.refl e7 PB.2.2.1 (g := (mkF m 41 #[.val (.ref a), .val (.ref b), .val (.ref b)] [(.ref b), (.ref ya)])) rfl rfl (hb hby d11_41)
    refine Goes.on (T' := T8) (g' := (mkF m 44 #[.val (.ref a), .val (.ref b), .val (.ref b)] [(.ref yb), (.ref ya)])) (fun _ k => st8 _ k) ?_
    refine Goes.callS X8 hx hZ 0 hown (own_w hw 58 rfl) (own_w hw 59 rfl) (own_w hw 60 rfl) (own_w hw 61 rfl) (by decide) e8 (rmLed1_2 l Z a0 hw ya yb u0 u1 h0 n0 Z0 BA BB z hz hP) (by decide) (by decide) (by decide) (by decide) rfl (by rw [hml]; rfl) (argsL := [(.ref ya), (.ref yb)]) (rest := []) rfl (lenOf pd_7 rfl) rfl (by show 2 * 0 + _ ≤ _; exact Nat.le_of_eq rfl) (hb hby d11_44) ?_
    intro v9 T9 L9 X9 hQ9
    obtain ⟨rfl, N9q, e9⟩ := hQ9
    have N9 := Fr.app N0 N9q
    show Goes p e below _ T9 (mkF m 47 #[.val (.ref a), .val (.ref b), .val (.ref b)] [(.int z)])
    by_cases hc10 : z = (0 : Int32)
    · refine Goes.on (T' := T9) (g' := (mkF m 55 #[.val (.ref a), .val (.ref b), .val (.ref b)] [(.int (0 : Int32))])) (fun _ k => XS.ifYes X9.here hx rfl (pc0 := 47) (pc' := 54) rfl (hb hby d11_47) rfl (XT.i0_eq_t hc10) (by decide) (by decide) (XS.iconst X9.here hx rfl (hb hby d11_54) k)) ?_
      exact Goes.retB X9 hx hlk hret (Or.inl rfl) (hb hby d11_55) (by decide) (by decide) ⟨own_z hc10, N9, e9⟩
    · refine Goes.on (T' := T9) (g' := (mkF m 55 #[.val (.ref a), .val (.ref b), .val (.ref b)] [(.int (1 : Int32))])) (fun _ k => XS.ifNo X9.here hx rfl (hb hby d11_47) rfl (XT.i0_eq_f hc10) (XS.iconst X9.here hx rfl (hb hby d11_50) (XS.goto X9.here hx rfl (pc0 := 51) (pc' := 55) rfl (hb hby d11_51) (by decide) (by decide) k))) ?_
      exact Goes.retB X9 hx hlk hret (Or.inr rfl) (hb hby d11_55) (by decide) (by decide) ⟨own_nz hz hc10, N9, e9⟩
theorem d12_7 : decode jdk_43_method_13_code 7 = .ok (.iconst 0, 1) := by decide +kernel
theorem d12_8 : decode jdk_43_method_13_code 8 = .ok (.istore_n 2, 1) := by decide +kernel
theorem d12_9 : decode jdk_43_method_13_code 9 = .ok (.iload_n 2, 1) := by decide +kernel
theorem d12_10 : decode jdk_43_method_13_code 10 = .ok (.aload_n 0, 1) := by decide +kernel
theorem d12_11 : decode jdk_43_method_13_code 11 = .ok (.arraylength, 1) := by decide +kernel
theorem d12_12 : decode jdk_43_method_13_code 12 = .ok (.if_icmp .ge 20, 3) := by decide +kernel
theorem d12_15 : decode jdk_43_method_13_code 15 = .ok (.aload_n 0, 1) := by decide +kernel
theorem d12_16 : decode jdk_43_method_13_code 16 = .ok (.iload_n 2, 1) := by decide +kernel
theorem d12_17 : decode jdk_43_method_13_code 17 = .ok (.baload, 1) := by decide +kernel
theorem d12_18 : decode jdk_43_method_13_code 18 = .ok (.aload_n 1, 1) := by decide +kernel
theorem d12_19 : decode jdk_43_method_13_code 19 = .ok (.iload_n 2, 1) := by decide +kernel
theorem d12_20 : decode jdk_43_method_13_code 20 = .ok (.baload, 1) := by decide +kernel
theorem d12_21 : decode jdk_43_method_13_code 21 = .ok (.if_icmp .eq 5, 3) := by decide +kernel
theorem d12_26 : decode jdk_43_method_13_code 26 = .ok (.iinc 2 1, 3) := by decide +kernel
theorem d12_29 : decode jdk_43_method_13_code 29 = .ok (.goto (-20), 3) := by decide +kernel
theorem d12_32 : decode jdk_43_method_13_code 32 = .ok (.iconst 1, 1) := by decide +kernel
theorem d12_33 : decode jdk_43_method_13_code 33 = .ok (.ireturn, 1) := by decide +kernel
theorem d12_24 : decode jdk_43_method_13_code 24 = .ok (.iconst 0, 1) := by decide +kernel
theorem d12_25 : decode jdk_43_method_13_code 25 = .ok (.ireturn, 1) := by decide +kernel
set_option maxRecDepth 65536 in
set_option maxHeartbeats 40000000 in
theorem rmLed2_2 (l : Launch) (Z : State) (a0 : Array Value) (hw : ∀ d ∈ tables_1, d.before a0 Z = true) (a b : Addr) (u0 u1 : Int32)  (h0 : Heap) (n0 : Nat) (Z0 : n0 ≤ h0.size) (B0 : Arf Z h0 a .byte Value.int 2 (fun i => ([u0, u1] : List Int32).getD i 0)) (B1 : Arf Z h0 b .byte Value.int 2 (fun i => ([(46 : Int32), (46 : Int32)] : List Int32).getD i 0)) (z : Int32) (hz : z = 0 ∨ z = 1) (hP : z = 1 ↔ u0 = (46 : Int32) ∧ u1 = (46 : Int32)) :
    Pays l Z (⟨"java/lang/StringLatin1", "equals", "([B[B)Z"⟩ : MethodName) jdk_43_method_13_code 3 (some .boolean) [] ({ frames := 0, cells := 0, slots := 0, locals := 0 } : Room) #[(.ref a), (.ref b)] h0 (fun v h L => v = some (.int z) ∧ Fr n0 L ∧ h = h0) := by
  refine Pays.walk (plainFor_of_name pn_2) (fun m => ef_9 m a b ) ?_
  intro p e s m below meth c T0 X0 hx hby hml hown hnm hZ e0 hret hlk
  have N0 := Fr.nil n0
  refine Goes.on (T' := T0) (g' := (mkF m 16 #[.val (.ref a), .val (.ref b), .val (.int (0 : Int32))] [(.ref a)])) (fun _ k => XS.aloadN X0.here hx rfl (hb hby d12_0) rfl rfl (aLenm X0 hx hZ e0 B0 (hb hby d12_1) (XS.aloadN X0.here hx rfl (hb hby d12_2) rfl rfl (aLenm X0 hx hZ e0 B1 (hb hby d12_3) (XS.icmpNo X0.here hx rfl (hb hby d12_4) rfl (XT.ii_ne_f (by decide)) (XS.iconst X0.here hx rfl (hb hby d12_7) (XS.istoreN X0.here hx rfl (hb hby d12_8) rfl (l' := #[.val (.ref a), .val (.ref b), .val (.int (0 : Int32))]) rfl (XS.iloadN X0.here hx rfl (hb hby d12_9) rfl (XS.aloadN X0.here hx rfl (hb hby d12_10) rfl rfl (aLenm X0 hx hZ e0 B0 (hb hby d12_11) (XS.icmpNo X0.here hx rfl (hb hby d12_12) rfl (XT.ii_ge_f (by decide)) (XS.aloadN X0.here hx rfl (hb hby d12_15) rfl rfl k)))))))))))) ?_
  refine Goes.on (T' := T0) (g' := (mkF m 21 #[.val (.ref a), .val (.ref b), .val (.int (0 : Int32))] [(.int (46 : Int32)), (.int u0)])) (fun _ k => XS.iloadN X0.here hx rfl (hb hby d12_16) rfl (ldYm X0 hx hZ e0 B0 (by decide) (hb hby d12_17) (XS.aloadN X0.here hx rfl (hb hby d12_18) rfl rfl (XS.iloadN X0.here hx rfl (hb hby d12_19) rfl (ldYm X0 hx hZ e0 B1 (by decide) (hb hby d12_20) k))))) ?_
  by_cases hc6 : u0 = (46 : Int32)
  · refine Goes.on (T' := T0) (g' := (mkF m 20 #[.val (.ref a), .val (.ref b), .val (.int (1 : Int32))] [(.int (1 : Int32)), (.ref b), (.int u1)])) (fun _ k => XS.icmpYes X0.here hx rfl (pc0 := 21) (pc' := 26) rfl (hb hby d12_21) rfl (XT.ii_eq_t hc6) (by decide) (by decide) (XT.iincV X0.here hx rfl (1 : Int32) (hb hby d12_26) (by decide) rfl (l' := #[.val (.ref a), .val (.ref b), .val (.int (1 : Int32))]) rfl (XS.goto X0.here hx rfl (pc0 := 29) (pc' := 9) rfl (hb hby d12_29) (by decide) (by decide) (XS.iloadN X0.here hx rfl (hb hby d12_9) rfl (XS.aloadN X0.here hx rfl (hb hby d12_10) rfl rfl (aLenm X0 hx hZ e0 B0 (hb hby d12_11) (XS.icmpNo X0.here hx rfl (hb hby d12_12) rfl (XT.ii_ge_f (by decide)) (XS.aloadN X0.here hx rfl (hb hby d12_15) rfl rfl (XS.iloadN X0.here hx rfl (hb hby d12_16) rfl (ldYm X0 hx hZ e0 B0 (by decide) (hb hby d12_17) (XS.aloadN X0.here hx rfl (hb hby d12_18) rfl rfl (XS.iloadN X0.here hx rfl (hb hby d12_19) rfl k)))))))))))) ?_
    refine Goes.on (T' := T0) (g' := (mkF m 21 #[.val (.ref a), .val (.ref b), .val (.int (1 : Int32))] [(.int (46 : Int32)), (.int u1)])) (fun _ k => ldYm X0 hx hZ e0 B1 (by decide) (hb hby d12_20) k) ?_
    by_cases hc10 : u1 = (46 : Int32)
    · refine Goes.on (T' := T0) (g' := (mkF m 33 #[.val (.ref a), .val (.ref b), .val (.int (2 : Int32))] [(.int (1 : Int32))])) (fun _ k => XS.icmpYes X0.here hx rfl (pc0 := 21) (pc' := 26) rfl (hb hby d12_21) rfl (XT.ii_eq_t hc10) (by decide) (by decide) (XT.iincV X0.here hx rfl (1 : Int32) (hb hby d12_26) (by decide) rfl (l' := #[.val (.ref a), .val (.ref b), .val (.int (2 : Int32))]) rfl (XS.goto X0.here hx rfl (pc0 := 29) (pc' := 9) rfl (hb hby d12_29) (by decide) (by decide) (XS.iloadN X0.here hx rfl (hb hby d12_9) rfl (XS.aloadN X0.here hx rfl (hb hby d12_10) rfl rfl (aLenm X0 hx hZ e0 B0 (hb hby d12_11) (XS.icmpYes X0.here hx rfl (pc0 := 12) (pc' := 32) rfl (hb hby d12_12) rfl (XT.ii_ge_t (by decide)) (by decide) (by decide) (XS.iconst X0.here hx rfl (hb hby d12_32) k)))))))) ?_
      exact Goes.retB X0 hx hlk hret (Or.inr rfl) (hb hby d12_33) (by decide) (by decide) ⟨own_is1 hP ⟨hc6, hc10⟩, N0, e0⟩
    · refine Goes.on (T' := T0) (g' := (mkF m 25 #[.val (.ref a), .val (.ref b), .val (.int (1 : Int32))] [(.int (0 : Int32))])) (fun _ k => XS.icmpNo X0.here hx rfl (hb hby d12_21) rfl (XT.ii_eq_f hc10) (XS.iconst X0.here hx rfl (hb hby d12_24) k)) ?_
      exact Goes.retB X0 hx hlk hret (Or.inl rfl) (hb hby d12_25) (by decide) (by decide) ⟨own_is0 hz hP (fun q => hc10 q.2), N0, e0⟩
  · refine Goes.on (T' := T0) (g' := (mkF m 25 #[.val (.ref a), .val (.ref b), .val (.int (0 : Int32))] [(.int (0 : Int32))])) (fun _ k => XS.icmpNo X0.here hx rfl (hb hby d12_21) rfl (XT.ii_eq_f hc6) (XS.iconst X0.here hx rfl (hb hby d12_24) k)) ?_
    exact Goes.retB X0 hx hlk hret (Or.inl rfl) (hb hby d12_25) (by decide) (by decide) ⟨own_is0 hz hP (fun q => hc6 q.1), N0, e0⟩
set_option maxRecDepth 65536 in
set_option maxHeartbeats 40000000 in
theorem rmEqd2_2 (l : Launch) (Z : State) (a0 : Array Value) (hw : ∀ d ∈ tables_1, d.before a0 Z = true) (a b : Addr) (u0 u1 : Int32)  (h0 : Heap) (n0 : Nat) (Z0 : n0 ≤ h0.size) (O0 : Old Z n0 h0) (cs : Int32) (SC : Sta Z Z.heap "java/lang/String" "COMPACT_STRINGS" "Z" (.int cs)) (hcs : ¬ cs = (0 : Int32)) (ya yb : Addr) (ka kb : ClassId) (PA : Str Z h0 a ya ka (Int32.ofNat 2) [Value.int u0, Value.int u1]) (PB : Str Z h0 b yb kb (Int32.ofNat 2) [Value.int (46 : Int32), Value.int (46 : Int32)]) (z : Int32) (hz : z = 0 ∨ z = 1) (hP : z = 1 ↔ u0 = (46 : Int32) ∧ u1 = (46 : Int32)) :
    Pays l Z (⟨"java/lang/String", "equals", "(Ljava/lang/Object;)Z"⟩ : MethodName) jdk_42_method_66_code 3 (some .boolean) [] ({ frames := 1, cells := 0, slots := 0, locals := 14 } : Room) #[(.ref a), (.ref b)] h0 (fun v h L => v = some (.int z) ∧ Fr n0 L ∧ h = h0) := by
  refine Pays.walk (plainFor_of_name pn_1) (fun m => ef_9 m a b ) ?_
  intro p e s m below meth c T0 X0 hx hby hml hown hnm hZ e0 hret hlk
  have N0 := Fr.nil n0
  have BA : Arf Z h0 ya .byte Value.int 2 (fun i => ([u0, u1] : List Int32).getD i 0) := Arv.arf PA.2.2.2 (by decide) (own_lt2 rfl rfl)
  have BB : Arf Z h0 yb .byte Value.int 2 (fun i => ([(46 : Int32), (46 : Int32)] : List Int32).getD i 0) := Arv.arf PB.2.2.2 (by decide) (own_lt2 rfl rfl)
  refine Goes.on (T' := T0) (g' := (mkF m 2 #[.val (.ref a), .val (.ref b), .unset] [(.ref b), (.ref a)])) (fun _ k => XS.aloadN X0.here hx rfl (hb hby d11_0) rfl rfl (XS.aloadN X0.here hx rfl (hb hby d11_1) rfl rfl k)) ?_
  by_cases hc1 : ((.ref a) : Value) = (.ref b)
  · refine Goes.on (T' := T0) (g' := (mkF m 6 #[.val (.ref a), .val (.ref b), .unset] [(.int (1 : Int32))])) (fun _ k => XT.acmpNo X0.here hx rfl (hb hby d11_2) rfl rfl rfl (XT.aa_ne_f hc1) (XS.iconst X0.here hx rfl (hb hby d11_5) k)) ?_
    exact Goes.retB X0 hx hlk hret (Or.inr rfl) (hb hby d11_6) (by decide) (by decide) ⟨own_is1 hP (own_s2 (own_same PA PB (Value.ref.inj hc1) (by decide)).2), N0, e0⟩
  · refine Goes.on (T' := T0) (g' := (mkF m 8 #[.val (.ref a), .val (.ref b), .unset] [(.ref b)])) (fun _ k => XT.acmpYes X0.here hx rfl (pc0 := 2) (pc' := 7) rfl (hb hby d11_2) rfl rfl rfl (XT.aa_ne_t hc1) (by decide) (by decide) (XS.aloadN X0.here hx rfl (hb hby d11_7) rfl rfl k)) ?_
    obtain ⟨T2, X2, e2, st2⟩ := instY X0 hx hZ hown (own_w hw 57 rfl) e0 (Ins.self PB.1) (g := (mkF m 8 #[.val (.ref a), .val (.ref b), .unset] [(.ref b)])) rfl rfl (hb hby d11_8)
    refine Goes.on (T' := T2) (g' := (mkF m 15 #[.val (.ref a), .val (.ref b), .unset] [(.ref b)])) (fun _ k => st2 _ (XS.ifNo X2.here hx rfl (hb hby d11_11) rfl (XT.i0_eq_f (by decide)) (XS.aloadN X2.here hx rfl (hb hby d11_14) rfl rfl k))) ?_
    obtain ⟨T3, X3, e3, st3⟩ := castY X2 hx hZ hown (own_w hw 57 rfl) e2 (Ins.self PB.1) (g := (mkF m 15 #[.val (.ref a), .val (.ref b), .unset] [(.ref b)])) rfl rfl (hb hby d11_15)
    refine Goes.on (T' := T3) (g' := (mkF m 19 #[.val (.ref a), .val (.ref b), .val (.ref b)] [])) (fun _ k => st3 _ (XS.astoreN X3.here hx rfl (hb hby d11_18) rfl rfl (l' := #[.val (.ref a), .val (.ref b), .val (.ref b)]) rfl k)) ?_
    obtain ⟨T4, X4, e4, st4⟩ := getS (host := "") X3 hx hZ hown (own_w hw 24 rfl) Via.refl e3 (Sta.ext O0.2 SC) (g := (mkF m 19 #[.val (.ref a), .val (.ref b), .val (.ref b)] [])) rfl (hb hby d11_19)
    refine Goes.on (T' := T4) (g' := (mkF m 26 #[.val (.ref a), .val (.ref b), .val (.ref b)] [(.ref a)])) (fun _ k => st4 _ (XS.ifNo X4.here hx rfl (hb hby d11_22) rfl (XT.i0_eq_f hcs) (XS.aloadN X4.here hx rfl (hb hby d11_25) rfl rfl k))) ?_
    obtain ⟨T5, X5, e5, st5⟩ := getF X4 hx hZ hown (host := "") (Or.inl (own_w hw 36 rfl)) Via.refl e4 PA.2.1 (g := (mkF m 26 #[.val (.ref a), .val (.ref b), .val (.ref b)] [(.ref a)])) rfl rfl (hb hby d11_26)
    refine Goes.on (T' := T5) (g' := (mkF m 30 #[.val (.ref a), .val (.ref b), .val (.ref b)] [(.ref b), (.int (0 : Int32))])) (fun _ k => st5 _ (XS.aloadN X5.here hx rfl (hb hby d11_29) rfl rfl k)) ?_
    obtain ⟨T6, X6, e6, st6⟩ := getF X5 hx hZ hown (host := "") (Or.inl (own_w hw 36 rfl)) Via.refl e5 PB.2.1 (g := (mkF m 30 #[.val (.ref a), .val (.ref b), .val (.ref b)] [(.ref b), (.int (0 : Int32))])) rfl rfl (hb hby d11_30)
    refine Goes.on (T' := T6) (g' := (mkF m 37 #[.val (.ref a), .val (.ref b), .val (.ref b)] [(.ref a)])) (fun _ k => st6 _ (XS.icmpNo X6.here hx rfl (hb hby d11_33) rfl (XT.ii_ne_f (by decide)) (XS.aloadN X6.here hx rfl (hb hby d11_36) rfl rfl k))) ?_
    obtain ⟨T7, X7, e7, st7⟩ := getF X6 hx hZ hown (host := "") (Or.inl (own_w hw 38 rfl)) Via.refl e6 PA.2.2.1 (g := (mkF m 37 #[.val (.ref a), .val (.ref b), .val (.ref b)] [(.ref a)])) rfl rfl (hb hby d11_37)
    refine Goes.on (T' := T7) (g' := (mkF m 41 #[.val (.ref a), .val (.ref b), .val (.ref b)] [(.ref b), (.ref ya)])) (fun _ k => st7 _ (XS.aloadN X7.here hx rfl (hb hby d11_40) rfl rfl k)) ?_
    obtain ⟨T8, X8, e8, st8⟩ := getF X7 hx hZ hown (host := "") (Or.inl (own_w hw 38 rfl)) Via.refl e7 PB.2.2.1 (g := (mkF m 41 #[.val (.ref a), .val (.ref b), .val (.ref b)] [(.ref b), (.ref ya)])) rfl rfl (hb hby d11_41)
    refine Goes.on (T' := T8) (g' := (mkF m 44 #[.val (.ref a), .val (.ref b), .val (.ref b)] [(.ref yb), (.ref ya)])) (fun _ k => st8 _ k) ?_
    refine Goes.callS X8 hx hZ 0 hown (own_w hw 58 rfl) (own_w hw 59 rfl) (own_w hw 60 rfl) (own_w hw 61 rfl) (by decide) e8 (rmLed2_2 l Z a0 hw ya yb u0 u1 h0 n0 Z0 BA BB z hz hP) (by decide) (by decide) (by decide) (by decide) rfl (by rw [hml]; rfl) (argsL := [(.ref ya), (.ref yb)]) (rest := []) rfl (lenOf pd_7 rfl) rfl (by show 2 * 0 + _ ≤ _; exact Nat.le_of_eq rfl) (hb hby d11_44) ?_
    intro v9 T9 L9 X9 hQ9
    obtain ⟨rfl, N9q, e9⟩ := hQ9
    have N9 := Fr.app N0 N9q
    show Goes p e below _ T9 (mkF m 47 #[.val (.ref a), .val (.ref b), .val (.ref b)] [(.int z)])
    by_cases hc10 : z = (0 : Int32)
    · refine Goes.on (T' := T9) (g' := (mkF m 55 #[.val (.ref a), .val (.ref b), .val (.ref b)] [(.int (0 : Int32))])) (fun _ k => XS.ifYes X9.here hx rfl (pc0 := 47) (pc' := 54) rfl (hb hby d11_47) rfl (XT.i0_eq_t hc10) (by decide) (by decide) (XS.iconst X9.here hx rfl (hb hby d11_54) k)) ?_
      exact Goes.retB X9 hx hlk hret (Or.inl rfl) (hb hby d11_55) (by decide) (by decide) ⟨own_z hc10, N9, e9⟩
    · refine Goes.on (T' := T9) (g' := (mkF m 55 #[.val (.ref a), .val (.ref b), .val (.ref b)] [(.int (1 : Int32))])) (fun _ k => XS.ifNo X9.here hx rfl (hb hby d11_47) rfl (XT.i0_eq_f hc10) (XS.iconst X9.here hx rfl (hb hby d11_50) (XS.goto X9.here hx rfl (pc0 := 51) (pc' := 55) rfl (hb hby d11_51) (by decide) (by decide) k))) ?_
      exact Goes.retB X9 hx hlk hret (Or.inr rfl) (hb hby d11_55) (by decide) (by decide) ⟨own_nz hz hc10, N9, e9⟩
theorem d9_0 : decode prog_13_method_1_code 0 = .ok (.aload_n 0, 1) := by decide +kernel
theorem d9_1 : decode prog_13_method_1_code 1 = .ok (.invokespecial 1, 3) := by decide +kernel
theorem d9_4 : decode prog_13_method_1_code 4 = .ok (.aload_n 1, 1) := by decide +kernel
theorem d9_5 : decode prog_13_method_1_code 5 = .ok (.invokevirtual 7, 3) := by decide +kernel
theorem d9_8 : decode prog_13_method_1_code 8 = .ok (.ifCond .ne 38, 3) := by decide +kernel
theorem d9_11 : decode prog_13_method_1_code 11 = .ok (.aload_n 1, 1) := by decide +kernel
theorem d9_12 : decode prog_13_method_1_code 12 = .ok (.ldc 13, 2) := by decide +kernel
theorem pd_8 : parseMethodDescriptor "(Ljava/lang/Object;)Z" = some ⟨[(.object "java/lang/Object")], some .boolean⟩ := by decide +kernel
theorem d9_14 : decode prog_13_method_1_code 14 = .ok (.invokevirtual 15, 3) := by decide +kernel
theorem d9_17 : decode prog_13_method_1_code 17 = .ok (.ifCond .ne 29, 3) := by decide +kernel
theorem d9_20 : decode prog_13_method_1_code 20 = .ok (.aload_n 1, 1) := by decide +kernel
theorem d9_21 : decode prog_13_method_1_code 21 = .ok (.ldc 19, 2) := by decide +kernel
theorem d9_23 : decode prog_13_method_1_code 23 = .ok (.invokevirtual 15, 3) := by decide +kernel
theorem d9_26 : decode prog_13_method_1_code 26 = .ok (.ifCond .ne 20, 3) := by decide +kernel
theorem d9_29 : decode prog_13_method_1_code 29 = .ok (.aload_n 1, 1) := by decide +kernel
theorem d9_30 : decode prog_13_method_1_code 30 = .ok (.bipush 47, 2) := by decide +kernel
theorem pd_9 : parseMethodDescriptor "(I)I" = some ⟨[.int], some .int⟩ := by decide +kernel
theorem d9_32 : decode prog_13_method_1_code 32 = .ok (.invokevirtual 21, 3) := by decide +kernel
theorem d9_35 : decode prog_13_method_1_code 35 = .ok (.ifCond .ge 11, 3) := by decide +kernel
theorem d9_38 : decode prog_13_method_1_code 38 = .ok (.aload_n 1, 1) := by decide +kernel
theorem d9_39 : decode prog_13_method_1_code 39 = .ok (.iconst 0, 1) := by decide +kernel
theorem d9_40 : decode prog_13_method_1_code 40 = .ok (.invokevirtual 21, 3) := by decide +kernel
theorem d9_43 : decode prog_13_method_1_code 43 = .ok (.ifCond .lt 17, 3) := by decide +kernel
theorem d9_60 : decode prog_13_method_1_code 60 = .ok (.aload_n 0, 1) := by decide +kernel
theorem d9_61 : decode prog_13_method_1_code 61 = .ok (.aload_n 1, 1) := by decide +kernel
theorem d9_62 : decode prog_13_method_1_code 62 = .ok (.putfield 34, 3) := by decide +kernel
theorem d9_65 : decode prog_13_method_1_code 65 = .ok (.aload_n 0, 1) := by decide +kernel
theorem d9_66 : decode prog_13_method_1_code 66 = .ok (.lload_n 2, 1) := by decide +kernel
theorem d9_67 : decode prog_13_method_1_code 67 = .ok (.putfield 40, 3) := by decide +kernel
theorem d9_70 : decode prog_13_method_1_code 70 = .ok (.return_, 1) := by decide +kernel
theorem ef_10 (m : MethodId) (x0 : Addr) (x1 : Addr) (x2 : Int64) : entryFrame m #[(.ref x0), (.ref x1), (.long x2)] 4 = mkF m 0 #[.val (.ref x0), .val (.ref x1), .val (.long x2), .second] [] := by first | (simp [entryFrame, mkF, argsToLocals, Value.category]; done) | rfl
theorem pn_3 : plainName "com/example/narada/narada/ObjectAddress" = true := by first | (simp [plainName, overriddenIn]; done) | decide +kernel
set_option maxRecDepth 65536 in
set_option maxHeartbeats 40000000 in
theorem rmOa_2 (l : Launch) (Z : State) (a0 : Array Value) (hw : ∀ d ∈ tables_1, d.before a0 Z = true) (a : Addr) (x1 : Addr) (x2 : Int64) (h0 : Heap) (n0 : Nat) (Z0 : n0 ≤ h0.size) (E0 : Exa Z h0 a "com/example/narada/narada/ObjectAddress") (ga : n0 ≤ a) (F_endpoint : Fld Z h0 a "com/example/narada/narada/ObjectAddress" "endpoint" "Ljava/lang/String;" .null) (F_object : Fld Z h0 a "com/example/narada/narada/ObjectAddress" "object" "J" (.long (0 : Int64))) (hEL : EW Z a0 consts_1) (O0 : Old Z n0 h0) (cs : Int32) (SC : Sta Z Z.heap "java/lang/String" "COMPACT_STRINGS" "Z" (.int cs)) (hcs : ¬ cs = (0 : Int32)) (ya : Addr) (ka : ClassId) (u0 u1 : Int32) (PA : Str Z h0 x1 ya ka (Int32.ofNat 2) [Value.int u0, Value.int u1]) (k1 : ¬ (False)) (k2 : ¬ (u0 = (46 : Int32) ∧ u1 = (46 : Int32))) (gs0 : ¬ u0 = (47 : Int32).toInt8.toInt32) (gs1 : ¬ u1 = (47 : Int32).toInt8.toInt32) (gn0 : ¬ u0 = (0 : Int32).toInt8.toInt32) (gn1 : ¬ u1 = (0 : Int32).toInt8.toInt32) :
    PaysW l Z consts_1 (⟨"com/example/narada/narada/ObjectAddress", "<init>", "(Ljava/lang/String;J)V"⟩ : MethodName) prog_13_method_1_code 4 none [] ({ frames := 4, cells := 4, slots := 40, locals := 59 } : Room) #[(.ref a), (.ref x1), (.long x2)] h0 (fun v h L => v = none ∧ Fr n0 L ∧ Keep h0 h [a] ∧ Exa Z h a "com/example/narada/narada/ObjectAddress" ∧ Fld Z h a "com/example/narada/narada/ObjectAddress" "endpoint" "Ljava/lang/String;" (.ref x1) ∧ Fld Z h a "com/example/narada/narada/ObjectAddress" "object" "J" (.long x2)) := by
  refine PaysW.walk (plainFor_of_name pn_3) (fun m => ef_10 m a x1 x2 ) ?_
  intro p e s m below meth c T0 X0 hx hby hml hown hnm hZ e0 hret hlk hS0 RR0
  have hk0 : 0 ≤ h0.size := Nat.zero_le _
  have S0 : h0.size ≤ h0.size := Nat.le_refl _
  have wS := own_wS hw
  have N0 := Fr.nil n0
  have K0 := Keep.refl h0 [a]
  refine Goes.on (T' := T0) (g' := (mkF m 1 #[.val (.ref a), .val (.ref x1), .val (.long x2), .second] [(.ref a)])) (fun _ k => XS.aloadN X0.here hx rfl (hb hby d9_0) rfl rfl k) ?_
  obtain ⟨T1, X1, e1, st1⟩ := initO X0 hx hZ hown (own_w hw 43 rfl) (own_w hw 22 rfl) (own_w hw 23 rfl) e0 (g := (mkF m 1 #[.val (.ref a), .val (.ref x1), .val (.long x2), .second] [(.ref a)])) rfl (by rw [hml]; rfl) rfl (hb hby d9_1) (by decide) (W := 0) (by show 2 * 0 + _ ≤ _; exact Nat.le_of_eq rfl) (by decide)
  refine Goes.on (T' := T1) (g' := (mkF m 5 #[.val (.ref a), .val (.ref x1), .val (.long x2), .second] [(.ref x1)])) (fun _ k => st1 _ (XS.aloadN X1.here hx rfl (hb hby d9_4) rfl rfl k)) ?_
  refine Goes.callV X1 hx hZ 0 hown (own_w hw 44 rfl) (own_w hw 45 rfl) (notFace_of_selects (args := #[]) (mvT hZ (own_w hw 47 rfl))) (own_w hw 47 rfl) (own_w hw 46 rfl) (own_w hw 13 rfl) (own_w hw 48 rfl) (by decide) e1 (PA).1 (rmEm_2 l Z a0 hw x1 u0 u1 h0 n0 Z0 O0 cs SC hcs ya ka PA ) (by decide) (by decide) (by decide) (by decide) rfl (by rw [hml]; rfl) (argsL := []) (rest := []) rfl (lenOf pd_5 rfl) rfl (by show 2 * 0 + _ ≤ _; exact Nat.le_of_eq rfl) (hb hby d9_5) ?_
  intro v2 T2 L2 X2 hQ2
  obtain ⟨rfl, N2q, e2⟩ := hQ2
  have N2 := Fr.app N0 N2q
  show Goes p e below _ T2 (mkF m 8 #[.val (.ref a), .val (.ref x1), .val (.long x2), .second] [(.int (0 : Int32))])
  refine Goes.on (T' := T2) (g' := (mkF m 12 #[.val (.ref a), .val (.ref x1), .val (.long x2), .second] [(.ref x1)])) (fun _ k => XS.ifNo X2.here hx rfl (hb hby d9_8) rfl (XT.i0_ne_f (by decide)) (XS.aloadN X2.here hx rfl (hb hby d9_11) rfl rfl k)) ?_
  obtain ⟨a3, T3, h3, k3, b3, kb3, X3, e3, E3, hS3, hk3, hZ3, hown3, A3, C3, V3, K3, lt3, lu3, R3, Lt3, sf3, st3⟩ := ldcCH X2 hx hZ hown (own_w hw 49 rfl) wS e2 hS0 hk0 hEL (List.mem_of_getElem? (i := 0) rfl) RR0.1 (vs := [Value.int 46]) (z := Int32.ofNat 1) ⟨by decide, by decide⟩ (by decide) (by decide) (g := (mkF m 12 #[.val (.ref a), .val (.ref x1), .val (.long x2), .second] [(.ref x1)])) rfl (hb hby d9_12) (n := 4) (by decide) (by decide) (by decide) (by decide)
  have C4 := E0.ext E3
  have C5 := F_endpoint.ext E3
  have C6 := F_object.ext E3
  have C7 := O0.ext E3
  have C8 := PA.ext E3
  have Z9 : n0 ≤ h3.size := Nat.le_trans Z0 E3.1
  have K12 := K0.ext E3
  have RR3 := RR0.trans R3
  have Q3 : Str Z h3 a3 b3 kb3 (Int32.ofNat 1) [Value.int 46] := ⟨A3, C3, V3, K3⟩
  refine Goes.on (T' := T3) (g' := (mkF m 14 #[.val (.ref a), .val (.ref x1), .val (.long x2), .second] [(.ref a3), (.ref x1)])) (fun _ k => st3 _ k) ?_
  refine Goes.callV X3 hx hZ3 0 hown3 (own_w hw 52 rfl) (own_w hw 53 rfl) (notFace_of_selects (args := #[]) (mvT hZ3 (own_w hw 55 rfl))) (own_w hw 55 rfl) (own_w hw 54 rfl) (own_w hw 13 rfl) (own_w hw 56 rfl) (by decide) e3 (C8).1 (rmEqd1_2 l Z a0 hw x1 a3 u0 u1 h3 n0 Z9 C7 cs SC hcs ya b3 ka kb3 C8 Q3 (0 : Int32) (Or.inl rfl) (own_F k1)) (by decide) (by decide) (by decide) (by decide) rfl (by rw [hml]; rfl) (argsL := [(.ref a3)]) (rest := []) rfl (lenOf pd_8 rfl) rfl (by show 2 * 0 + _ ≤ _; exact Nat.le_of_eq rfl) (hb hby d9_14) ?_
  intro v13 T13 L13 X13 hQ13
  obtain ⟨rfl, N13q, e13⟩ := hQ13
  have N13 := Fr.app N2 N13q
  show Goes p e below _ T13 (mkF m 17 #[.val (.ref a), .val (.ref x1), .val (.long x2), .second] [(.int (0 : Int32))])
  refine Goes.on (T' := T13) (g' := (mkF m 21 #[.val (.ref a), .val (.ref x1), .val (.long x2), .second] [(.ref x1)])) (fun _ k => XS.ifNo X13.here hx rfl (hb hby d9_17) rfl (XT.i0_ne_f (by decide)) (XS.aloadN X13.here hx rfl (hb hby d9_20) rfl rfl k)) ?_
  obtain ⟨a14, T14, h14, k14, b14, kb14, X14, e14, E14, hS14, hk14, hZ14, hown14, A14, C14, V14, K14, lt14, lu14, R14, Lt14, sf14, st14⟩ := ldcCH X13 hx hZ3 hown3 (own_w hw 62 rfl) wS e13 hS3 hk3 hEL (List.mem_of_getElem? (i := 1) rfl) RR3.1 (vs := [Value.int 46, Value.int 46]) (z := Int32.ofNat 2) ⟨by decide, by decide⟩ (by decide) (by decide) (g := (mkF m 21 #[.val (.ref a), .val (.ref x1), .val (.long x2), .second] [(.ref x1)])) rfl (hb hby d9_21) (n := 8) (by decide) (by decide) (by decide) (by decide)
  have C15 := C4.ext E14
  have C16 := C5.ext E14
  have C17 := C6.ext E14
  have C18 := C7.ext E14
  have C19 := C8.ext E14
  have Z21 : n0 ≤ h14.size := Nat.le_trans Z9 E14.1
  have K24 := K12.ext E14
  have RR14 := RR3.trans R14
  have Q14 : Str Z h14 a14 b14 kb14 (Int32.ofNat 2) [Value.int 46, Value.int 46] := ⟨A14, C14, V14, K14⟩
  refine Goes.on (T' := T14) (g' := (mkF m 23 #[.val (.ref a), .val (.ref x1), .val (.long x2), .second] [(.ref a14), (.ref x1)])) (fun _ k => st14 _ k) ?_
  refine Goes.callV X14 hx hZ14 0 hown14 (own_w hw 52 rfl) (own_w hw 53 rfl) (notFace_of_selects (args := #[]) (mvT hZ14 (own_w hw 55 rfl))) (own_w hw 55 rfl) (own_w hw 54 rfl) (own_w hw 13 rfl) (own_w hw 56 rfl) (by decide) e14 (C19).1 (rmEqd2_2 l Z a0 hw x1 a14 u0 u1 h14 n0 Z21 C18 cs SC hcs ya b14 ka kb14 C19 Q14 (0 : Int32) (Or.inl rfl) (own_F k2)) (by decide) (by decide) (by decide) (by decide) rfl (by rw [hml]; rfl) (argsL := [(.ref a14)]) (rest := []) rfl (lenOf pd_8 rfl) rfl (by show 2 * 0 + _ ≤ _; exact Nat.le_of_eq rfl) (hb hby d9_23) ?_
  intro v25 T25 L25 X25 hQ25
  obtain ⟨rfl, N25q, e25⟩ := hQ25
  have N25 := Fr.app N13 N25q
  show Goes p e below _ T25 (mkF m 26 #[.val (.ref a), .val (.ref x1), .val (.long x2), .second] [(.int (0 : Int32))])
  refine Goes.on (T' := T25) (g' := (mkF m 32 #[.val (.ref a), .val (.ref x1), .val (.long x2), .second] [(.int (47 : Int32)), (.ref x1)])) (fun _ k => XS.ifNo X25.here hx rfl (hb hby d9_26) rfl (XT.i0_ne_f (by decide)) (XS.aloadN X25.here hx rfl (hb hby d9_29) rfl rfl (XS.bipush X25.here hx rfl (hb hby d9_30) k))) ?_
  refine Goes.callV X25 hx hZ14 0 hown14 (own_w hw 63 rfl) (own_w hw 64 rfl) (notFace_of_selects (args := #[]) (mvT hZ14 (own_w hw 66 rfl))) (own_w hw 66 rfl) (own_w hw 65 rfl) (own_w hw 13 rfl) (own_w hw 67 rfl) (by decide) e25 (C19).1 (rmIx47_2 l Z a0 hw x1 u0 u1 h14 n0 Z21 C18 cs SC hcs ya ka C19 gs0 gs1) (by decide) (by decide) (by decide) (by decide) rfl (by rw [hml]; rfl) (argsL := [(.int (47 : Int32))]) (rest := []) rfl (lenOf pd_9 rfl) rfl (by show 2 * 0 + _ ≤ _; exact Nat.le_of_eq rfl) (hb hby d9_32) ?_
  intro v26 T26 L26 X26 hQ26
  obtain ⟨rfl, N26q, e26⟩ := hQ26
  have N26 := Fr.app N25 N26q
  show Goes p e below _ T26 (mkF m 35 #[.val (.ref a), .val (.ref x1), .val (.long x2), .second] [(.int (-1 : Int32))])
  refine Goes.on (T' := T26) (g' := (mkF m 40 #[.val (.ref a), .val (.ref x1), .val (.long x2), .second] [(.int (0 : Int32)), (.ref x1)])) (fun _ k => XS.ifNo X26.here hx rfl (hb hby d9_35) rfl (XT.i0_ge_f (by decide)) (XS.aloadN X26.here hx rfl (hb hby d9_38) rfl rfl (XS.iconst X26.here hx rfl (hb hby d9_39) k))) ?_
  refine Goes.callV X26 hx hZ14 0 hown14 (own_w hw 63 rfl) (own_w hw 64 rfl) (notFace_of_selects (args := #[]) (mvT hZ14 (own_w hw 66 rfl))) (own_w hw 66 rfl) (own_w hw 65 rfl) (own_w hw 13 rfl) (own_w hw 67 rfl) (by decide) e26 (C19).1 (rmIx0_2 l Z a0 hw x1 u0 u1 h14 n0 Z21 C18 cs SC hcs ya ka C19 gn0 gn1) (by decide) (by decide) (by decide) (by decide) rfl (by rw [hml]; rfl) (argsL := [(.int (0 : Int32))]) (rest := []) rfl (lenOf pd_9 rfl) rfl (by show 2 * 0 + _ ≤ _; exact Nat.le_of_eq rfl) (hb hby d9_40) ?_
  intro v27 T27 L27 X27 hQ27
  obtain ⟨rfl, N27q, e27⟩ := hQ27
  have N27 := Fr.app N26 N27q
  show Goes p e below _ T27 (mkF m 43 #[.val (.ref a), .val (.ref x1), .val (.long x2), .second] [(.int (-1 : Int32))])
  refine Goes.on (T' := T27) (g' := (mkF m 62 #[.val (.ref a), .val (.ref x1), .val (.long x2), .second] [(.ref x1), (.ref a)])) (fun _ k => XS.ifYes X27.here hx rfl (pc0 := 43) (pc' := 60) rfl (hb hby d9_43) rfl (XT.i0_lt_t (by decide)) (by decide) (by decide) (XS.aloadN X27.here hx rfl (hb hby d9_60) rfl rfl (XS.aloadN X27.here hx rfl (hb hby d9_61) rfl rfl k))) ?_
  obtain ⟨T28, h28, X28, e28, W28, st28⟩ := putF X27 hx hZ14 hown14 (host := "") (Or.inl (own_w hw 104 rfl)) Via.refl e27 C16 C15 (Or.inr ⟨(own_w hw 105 rfl), rfl, hnm⟩) (own_w hw 9 rfl) (ty := (.object "java/lang/String")) (by decide) rfl rfl (g := (mkF m 62 #[.val (.ref a), .val (.ref x1), .val (.long x2), .second] [(.ref x1), (.ref a)])) rfl rfl (hb hby d9_62)
  have N28 := Fr.snoc X28 N27 ga
  have C29 := C15.wr W28
  have C30 := C16.same W28
  have C31 := C17.other W28 (Or.inr (slot_ne (Or.inr (own_w hw 107 rfl)) (Or.inr (own_w hw 105 rfl)) (by decide) (t := .long) (by decide) (t' := (.object "java/lang/String")) (by decide)))
  have Z34 : k14 ≤ h28.size := by rw [W28.size]; exact hk14
  have RR36 := RR14.trans (CHr.wr W28 (Safe.exa hZ14.alike C15 (by decide) (by decide)) RR14.1)
  have K37 := K24.wr W28 (Or.inl (List.mem_of_getElem? (i := 0) rfl))
  refine Goes.on (T' := T28) (g' := (mkF m 67 #[.val (.ref a), .val (.ref x1), .val (.long x2), .second] [(.long x2), (.ref a)])) (fun _ k => st28 _ (XS.aloadN X28.here hx rfl (hb hby d9_65) rfl rfl (XS.lloadN X28.here hx rfl (hb hby d9_66) rfl k))) ?_
  obtain ⟨T38, h38, X38, e38, W38, st38⟩ := putF X28 hx hZ14 hown14 (host := "") (Or.inl (own_w hw 106 rfl)) Via.refl e28 C31 C29 (Or.inr ⟨(own_w hw 107 rfl), rfl, hnm⟩) (own_w hw 9 rfl) (ty := .long) (by decide) rfl rfl (g := (mkF m 67 #[.val (.ref a), .val (.ref x1), .val (.long x2), .second] [(.long x2), (.ref a)])) rfl rfl (hb hby d9_67)
  have N38 := Fr.snoc X38 N28 ga
  have C39 := C29.wr W38
  have C40 := C30.other W38 (Or.inr (slot_ne (Or.inr (own_w hw 105 rfl)) (Or.inr (own_w hw 107 rfl)) (by decide) (t := (.object "java/lang/String")) (by decide) (t' := .long) (by decide)))
  have C41 := C31.same W38
  have Z44 : k14 ≤ h38.size := by rw [W38.size]; exact Z34
  have RR46 := RR36.trans (CHr.wr W38 (Safe.exa hZ14.alike C29 (by decide) (by decide)) RR36.1)
  have K47 := K37.wr W38 (Or.inl (List.mem_of_getElem? (i := 0) rfl))
  refine Goes.on (T' := T38) (g' := (mkF m 70 #[.val (.ref a), .val (.ref x1), .val (.long x2), .second] [])) (fun _ k => st38 _ k) ?_
  exact Goes.retVW X38 hS14 (by rw [e38]; exact Z44) hZ14 hEL (by rw [e38]; exact RR46) hx hlk hret (hb hby d9_70) (by decide) (by decide) (by rw [e38]; exact ⟨rfl, N38, K47, C39, C40, C41⟩)
set_option maxRecDepth 65536 in
set_option maxHeartbeats 40000000 in
theorem rmLess (l : Launch) (Z : State) (a0 : Array Value) (hw : ∀ d ∈ tables_1, d.before a0 Z = true) (a b : Addr) (u0 u1 v0 v1 : Int32)  (h0 : Heap) (n0 : Nat) (Z0 : n0 ≤ h0.size) (B0 : Arf Z h0 a .byte Value.int 2 (fun i => ([u0, u1] : List Int32).getD i 0)) (B1 : Arf Z h0 b .byte Value.int 2 (fun i => ([v0, v1] : List Int32).getD i 0)) (z : Int32) (hz : z = 0 ∨ z = 1) (hP : z = 1 ↔ u0 = v0 ∧ u1 = v1) :
    Pays l Z (⟨"java/lang/StringLatin1", "equals", "([B[B)Z"⟩ : MethodName) jdk_43_method_13_code 3 (some .boolean) [] ({ frames := 0, cells := 0, slots := 0, locals := 0 } : Room) #[(.ref a), (.ref b)] h0 (fun v h L => v = some (.int z) ∧ Fr n0 L ∧ h = h0) := by
  refine Pays.walk (plainFor_of_name pn_2) (fun m => ef_9 m a b ) ?_
  intro p e s m below meth c T0 X0 hx hby hml hown hnm hZ e0 hret hlk
  have N0 := Fr.nil n0
  refine Goes.on (T' := T0) (g' := (mkF m 16 #[.val (.ref a), .val (.ref b), .val (.int (0 : Int32))] [(.ref a)])) (fun _ k => XS.aloadN X0.here hx rfl (hb hby d12_0) rfl rfl (aLenm X0 hx hZ e0 B0 (hb hby d12_1) (XS.aloadN X0.here hx rfl (hb hby d12_2) rfl rfl (aLenm X0 hx hZ e0 B1 (hb hby d12_3) (XS.icmpNo X0.here hx rfl (hb hby d12_4) rfl (XT.ii_ne_f (by decide)) (XS.iconst X0.here hx rfl (hb hby d12_7) (XS.istoreN X0.here hx rfl (hb hby d12_8) rfl (l' := #[.val (.ref a), .val (.ref b), .val (.int (0 : Int32))]) rfl (XS.iloadN X0.here hx rfl (hb hby d12_9) rfl (XS.aloadN X0.here hx rfl (hb hby d12_10) rfl rfl (aLenm X0 hx hZ e0 B0 (hb hby d12_11) (XS.icmpNo X0.here hx rfl (hb hby d12_12) rfl (XT.ii_ge_f (by decide)) (XS.aloadN X0.here hx rfl (hb hby d12_15) rfl rfl k)))))))))))) ?_
  refine Goes.on (T' := T0) (g' := (mkF m 21 #[.val (.ref a), .val (.ref b), .val (.int (0 : Int32))] [(.int v0), (.int u0)])) (fun _ k => XS.iloadN X0.here hx rfl (hb hby d12_16) rfl (ldYm X0 hx hZ e0 B0 (by decide) (hb hby d12_17) (XS.aloadN X0.here hx rfl (hb hby d12_18) rfl rfl (XS.iloadN X0.here hx rfl (hb hby d12_19) rfl (ldYm X0 hx hZ e0 B1 (by decide) (hb hby d12_20) k))))) ?_
  by_cases hc6 : u0 = v0
  · refine Goes.on (T' := T0) (g' := (mkF m 20 #[.val (.ref a), .val (.ref b), .val (.int (1 : Int32))] [(.int (1 : Int32)), (.ref b), (.int u1)])) (fun _ k => XS.icmpYes X0.here hx rfl (pc0 := 21) (pc' := 26) rfl (hb hby d12_21) rfl (XT.ii_eq_t hc6) (by decide) (by decide) (XT.iincV X0.here hx rfl (1 : Int32) (hb hby d12_26) (by decide) rfl (l' := #[.val (.ref a), .val (.ref b), .val (.int (1 : Int32))]) rfl (XS.goto X0.here hx rfl (pc0 := 29) (pc' := 9) rfl (hb hby d12_29) (by decide) (by decide) (XS.iloadN X0.here hx rfl (hb hby d12_9) rfl (XS.aloadN X0.here hx rfl (hb hby d12_10) rfl rfl (aLenm X0 hx hZ e0 B0 (hb hby d12_11) (XS.icmpNo X0.here hx rfl (hb hby d12_12) rfl (XT.ii_ge_f (by decide)) (XS.aloadN X0.here hx rfl (hb hby d12_15) rfl rfl (XS.iloadN X0.here hx rfl (hb hby d12_16) rfl (ldYm X0 hx hZ e0 B0 (by decide) (hb hby d12_17) (XS.aloadN X0.here hx rfl (hb hby d12_18) rfl rfl (XS.iloadN X0.here hx rfl (hb hby d12_19) rfl k)))))))))))) ?_
    refine Goes.on (T' := T0) (g' := (mkF m 21 #[.val (.ref a), .val (.ref b), .val (.int (1 : Int32))] [(.int v1), (.int u1)])) (fun _ k => ldYm X0 hx hZ e0 B1 (by decide) (hb hby d12_20) k) ?_
    by_cases hc10 : u1 = v1
    · refine Goes.on (T' := T0) (g' := (mkF m 33 #[.val (.ref a), .val (.ref b), .val (.int (2 : Int32))] [(.int (1 : Int32))])) (fun _ k => XS.icmpYes X0.here hx rfl (pc0 := 21) (pc' := 26) rfl (hb hby d12_21) rfl (XT.ii_eq_t hc10) (by decide) (by decide) (XT.iincV X0.here hx rfl (1 : Int32) (hb hby d12_26) (by decide) rfl (l' := #[.val (.ref a), .val (.ref b), .val (.int (2 : Int32))]) rfl (XS.goto X0.here hx rfl (pc0 := 29) (pc' := 9) rfl (hb hby d12_29) (by decide) (by decide) (XS.iloadN X0.here hx rfl (hb hby d12_9) rfl (XS.aloadN X0.here hx rfl (hb hby d12_10) rfl rfl (aLenm X0 hx hZ e0 B0 (hb hby d12_11) (XS.icmpYes X0.here hx rfl (pc0 := 12) (pc' := 32) rfl (hb hby d12_12) rfl (XT.ii_ge_t (by decide)) (by decide) (by decide) (XS.iconst X0.here hx rfl (hb hby d12_32) k)))))))) ?_
      exact Goes.retB X0 hx hlk hret (Or.inr rfl) (hb hby d12_33) (by decide) (by decide) ⟨own_is1 hP ⟨hc6, hc10⟩, N0, e0⟩
    · refine Goes.on (T' := T0) (g' := (mkF m 25 #[.val (.ref a), .val (.ref b), .val (.int (1 : Int32))] [(.int (0 : Int32))])) (fun _ k => XS.icmpNo X0.here hx rfl (hb hby d12_21) rfl (XT.ii_eq_f hc10) (XS.iconst X0.here hx rfl (hb hby d12_24) k)) ?_
      exact Goes.retB X0 hx hlk hret (Or.inl rfl) (hb hby d12_25) (by decide) (by decide) ⟨own_is0 hz hP (fun q => hc10 q.2), N0, e0⟩
  · refine Goes.on (T' := T0) (g' := (mkF m 25 #[.val (.ref a), .val (.ref b), .val (.int (0 : Int32))] [(.int (0 : Int32))])) (fun _ k => XS.icmpNo X0.here hx rfl (hb hby d12_21) rfl (XT.ii_eq_f hc6) (XS.iconst X0.here hx rfl (hb hby d12_24) k)) ?_
    exact Goes.retB X0 hx hlk hret (Or.inl rfl) (hb hby d12_25) (by decide) (by decide) ⟨own_is0 hz hP (fun q => hc6 q.1), N0, e0⟩
set_option maxRecDepth 65536 in
set_option maxHeartbeats 40000000 in
theorem rmEqss (l : Launch) (Z : State) (a0 : Array Value) (hw : ∀ d ∈ tables_1, d.before a0 Z = true) (a b : Addr) (u0 u1 v0 v1 : Int32)  (h0 : Heap) (n0 : Nat) (Z0 : n0 ≤ h0.size) (O0 : Old Z n0 h0) (cs : Int32) (SC : Sta Z Z.heap "java/lang/String" "COMPACT_STRINGS" "Z" (.int cs)) (hcs : ¬ cs = (0 : Int32)) (ya yb : Addr) (ka kb : ClassId) (PA : Str Z h0 a ya ka (Int32.ofNat 2) [Value.int u0, Value.int u1]) (PB : Str Z h0 b yb kb (Int32.ofNat 2) [Value.int v0, Value.int v1]) (z : Int32) (hz : z = 0 ∨ z = 1) (hP : z = 1 ↔ u0 = v0 ∧ u1 = v1) :
    Pays l Z (⟨"java/lang/String", "equals", "(Ljava/lang/Object;)Z"⟩ : MethodName) jdk_42_method_66_code 3 (some .boolean) [] ({ frames := 1, cells := 0, slots := 0, locals := 14 } : Room) #[(.ref a), (.ref b)] h0 (fun v h L => v = some (.int z) ∧ Fr n0 L ∧ h = h0) := by
  refine Pays.walk (plainFor_of_name pn_1) (fun m => ef_9 m a b ) ?_
  intro p e s m below meth c T0 X0 hx hby hml hown hnm hZ e0 hret hlk
  have N0 := Fr.nil n0
  have BA : Arf Z h0 ya .byte Value.int 2 (fun i => ([u0, u1] : List Int32).getD i 0) := Arv.arf PA.2.2.2 (by decide) (own_lt2 rfl rfl)
  have BB : Arf Z h0 yb .byte Value.int 2 (fun i => ([v0, v1] : List Int32).getD i 0) := Arv.arf PB.2.2.2 (by decide) (own_lt2 rfl rfl)
  refine Goes.on (T' := T0) (g' := (mkF m 2 #[.val (.ref a), .val (.ref b), .unset] [(.ref b), (.ref a)])) (fun _ k => XS.aloadN X0.here hx rfl (hb hby d11_0) rfl rfl (XS.aloadN X0.here hx rfl (hb hby d11_1) rfl rfl k)) ?_
  by_cases hc1 : ((.ref a) : Value) = (.ref b)
  · refine Goes.on (T' := T0) (g' := (mkF m 6 #[.val (.ref a), .val (.ref b), .unset] [(.int (1 : Int32))])) (fun _ k => XT.acmpNo X0.here hx rfl (hb hby d11_2) rfl rfl rfl (XT.aa_ne_f hc1) (XS.iconst X0.here hx rfl (hb hby d11_5) k)) ?_
    exact Goes.retB X0 hx hlk hret (Or.inr rfl) (hb hby d11_6) (by decide) (by decide) ⟨own_is1 hP (own_s2 (own_same PA PB (Value.ref.inj hc1) (by decide)).2), N0, e0⟩
  · refine Goes.on (T' := T0) (g' := (mkF m 8 #[.val (.ref a), .val (.ref b), .unset] [(.ref b)])) (fun _ k => XT.acmpYes X0.here hx rfl (pc0 := 2) (pc' := 7) rfl (hb hby d11_2) rfl rfl rfl (XT.aa_ne_t hc1) (by decide) (by decide) (XS.aloadN X0.here hx rfl (hb hby d11_7) rfl rfl k)) ?_
    obtain ⟨T2, X2, e2, st2⟩ := instY X0 hx hZ hown (own_w hw 57 rfl) e0 (Ins.self PB.1) (g := (mkF m 8 #[.val (.ref a), .val (.ref b), .unset] [(.ref b)])) rfl rfl (hb hby d11_8)
    refine Goes.on (T' := T2) (g' := (mkF m 15 #[.val (.ref a), .val (.ref b), .unset] [(.ref b)])) (fun _ k => st2 _ (XS.ifNo X2.here hx rfl (hb hby d11_11) rfl (XT.i0_eq_f (by decide)) (XS.aloadN X2.here hx rfl (hb hby d11_14) rfl rfl k))) ?_
    obtain ⟨T3, X3, e3, st3⟩ := castY X2 hx hZ hown (own_w hw 57 rfl) e2 (Ins.self PB.1) (g := (mkF m 15 #[.val (.ref a), .val (.ref b), .unset] [(.ref b)])) rfl rfl (hb hby d11_15)
    refine Goes.on (T' := T3) (g' := (mkF m 19 #[.val (.ref a), .val (.ref b), .val (.ref b)] [])) (fun _ k => st3 _ (XS.astoreN X3.here hx rfl (hb hby d11_18) rfl rfl (l' := #[.val (.ref a), .val (.ref b), .val (.ref b)]) rfl k)) ?_
    obtain ⟨T4, X4, e4, st4⟩ := getS (host := "") X3 hx hZ hown (own_w hw 24 rfl) Via.refl e3 (Sta.ext O0.2 SC) (g := (mkF m 19 #[.val (.ref a), .val (.ref b), .val (.ref b)] [])) rfl (hb hby d11_19)
    refine Goes.on (T' := T4) (g' := (mkF m 26 #[.val (.ref a), .val (.ref b), .val (.ref b)] [(.ref a)])) (fun _ k => st4 _ (XS.ifNo X4.here hx rfl (hb hby d11_22) rfl (XT.i0_eq_f hcs) (XS.aloadN X4.here hx rfl (hb hby d11_25) rfl rfl k))) ?_
    obtain ⟨T5, X5, e5, st5⟩ := getF X4 hx hZ hown (host := "") (Or.inl (own_w hw 36 rfl)) Via.refl e4 PA.2.1 (g := (mkF m 26 #[.val (.ref a), .val (.ref b), .val (.ref b)] [(.ref a)])) rfl rfl (hb hby d11_26)
    refine Goes.on (T' := T5) (g' := (mkF m 30 #[.val (.ref a), .val (.ref b), .val (.ref b)] [(.ref b), (.int (0 : Int32))])) (fun _ k => st5 _ (XS.aloadN X5.here hx rfl (hb hby d11_29) rfl rfl k)) ?_
    obtain ⟨T6, X6, e6, st6⟩ := getF X5 hx hZ hown (host := "") (Or.inl (own_w hw 36 rfl)) Via.refl e5 PB.2.1 (g := (mkF m 30 #[.val (.ref a), .val (.ref b), .val (.ref b)] [(.ref b), (.int (0 : Int32))])) rfl rfl (hb hby d11_30)
    refine Goes.on (T' := T6) (g' := (mkF m 37 #[.val (.ref a), .val (.ref b), .val (.ref b)] [(.ref a)])) (fun _ k => st6 _ (XS.icmpNo X6.here hx rfl (hb hby d11_33) rfl (XT.ii_ne_f (by decide)) (XS.aloadN X6.here hx rfl (hb hby d11_36) rfl rfl k))) ?_
    obtain ⟨T7, X7, e7, st7⟩ := getF X6 hx hZ hown (host := "") (Or.inl (own_w hw 38 rfl)) Via.refl e6 PA.2.2.1 (g := (mkF m 37 #[.val (.ref a), .val (.ref b), .val (.ref b)] [(.ref a)])) rfl rfl (hb hby d11_37)
    refine Goes.on (T' := T7) (g' := (mkF m 41 #[.val (.ref a), .val (.ref b), .val (.ref b)] [(.ref b), (.ref ya)])) (fun _ k => st7 _ (XS.aloadN X7.here hx rfl (hb hby d11_40) rfl rfl k)) ?_
    obtain ⟨T8, X8, e8, st8⟩ := getF X7 hx hZ hown (host := "") (Or.inl (own_w hw 38 rfl)) Via.refl e7 PB.2.2.1 (g := (mkF m 41 #[.val (.ref a), .val (.ref b), .val (.ref b)] [(.ref b), (.ref ya)])) rfl rfl (hb hby d11_41)
    refine Goes.on (T' := T8) (g' := (mkF m 44 #[.val (.ref a), .val (.ref b), .val (.ref b)] [(.ref yb), (.ref ya)])) (fun _ k => st8 _ k) ?_
    refine Goes.callS X8 hx hZ 0 hown (own_w hw 58 rfl) (own_w hw 59 rfl) (own_w hw 60 rfl) (own_w hw 61 rfl) (by decide) e8 (rmLess l Z a0 hw ya yb u0 u1 v0 v1 h0 n0 Z0 BA BB z hz hP) (by decide) (by decide) (by decide) (by decide) rfl (by rw [hml]; rfl) (argsL := [(.ref ya), (.ref yb)]) (rest := []) rfl (lenOf pd_7 rfl) rfl (by show 2 * 0 + _ ≤ _; exact Nat.le_of_eq rfl) (hb hby d11_44) ?_
    intro v9 T9 L9 X9 hQ9
    obtain ⟨rfl, N9q, e9⟩ := hQ9
    have N9 := Fr.app N0 N9q
    show Goes p e below _ T9 (mkF m 47 #[.val (.ref a), .val (.ref b), .val (.ref b)] [(.int z)])
    by_cases hc10 : z = (0 : Int32)
    · refine Goes.on (T' := T9) (g' := (mkF m 55 #[.val (.ref a), .val (.ref b), .val (.ref b)] [(.int (0 : Int32))])) (fun _ k => XS.ifYes X9.here hx rfl (pc0 := 47) (pc' := 54) rfl (hb hby d11_47) rfl (XT.i0_eq_t hc10) (by decide) (by decide) (XS.iconst X9.here hx rfl (hb hby d11_54) k)) ?_
      exact Goes.retB X9 hx hlk hret (Or.inl rfl) (hb hby d11_55) (by decide) (by decide) ⟨own_z hc10, N9, e9⟩
    · refine Goes.on (T' := T9) (g' := (mkF m 55 #[.val (.ref a), .val (.ref b), .val (.ref b)] [(.int (1 : Int32))])) (fun _ k => XS.ifNo X9.here hx rfl (hb hby d11_47) rfl (XT.i0_eq_f hc10) (XS.iconst X9.here hx rfl (hb hby d11_50) (XS.goto X9.here hx rfl (pc0 := 51) (pc' := 55) rfl (hb hby d11_51) (by decide) (by decide) k))) ?_
      exact Goes.retB X9 hx hlk hret (Or.inr rfl) (hb hby d11_55) (by decide) (by decide) ⟨own_nz hz hc10, N9, e9⟩
theorem d25_0 : decode prog_13_method_4_code 0 = .ok (.aload_n 1, 1) := by decide +kernel
theorem d25_1 : decode prog_13_method_4_code 1 = .ok (.instanceof 35, 3) := by decide +kernel
theorem d25_4 : decode prog_13_method_4_code 4 = .ok (.ifCond .eq 39, 3) := by decide +kernel
theorem d25_7 : decode prog_13_method_4_code 7 = .ok (.aload_n 1, 1) := by decide +kernel
theorem d25_8 : decode prog_13_method_4_code 8 = .ok (.checkcast 35, 3) := by decide +kernel
theorem d25_11 : decode prog_13_method_4_code 11 = .ok (.getfield 34, 3) := by decide +kernel
theorem d25_14 : decode prog_13_method_4_code 14 = .ok (.aload_n 0, 1) := by decide +kernel
theorem d25_15 : decode prog_13_method_4_code 15 = .ok (.getfield 34, 3) := by decide +kernel
theorem d25_18 : decode prog_13_method_4_code 18 = .ok (.invokevirtual 15, 3) := by decide +kernel
theorem d25_21 : decode prog_13_method_4_code 21 = .ok (.ifCond .eq 22, 3) := by decide +kernel
theorem d25_24 : decode prog_13_method_4_code 24 = .ok (.aload_n 1, 1) := by decide +kernel
theorem d25_25 : decode prog_13_method_4_code 25 = .ok (.checkcast 35, 3) := by decide +kernel
theorem d25_28 : decode prog_13_method_4_code 28 = .ok (.getfield 40, 3) := by decide +kernel
theorem d25_31 : decode prog_13_method_4_code 31 = .ok (.aload_n 0, 1) := by decide +kernel
theorem d25_32 : decode prog_13_method_4_code 32 = .ok (.getfield 40, 3) := by decide +kernel
theorem d25_35 : decode prog_13_method_4_code 35 = .ok (.lcmp, 1) := by decide +kernel
theorem d25_36 : decode prog_13_method_4_code 36 = .ok (.ifCond .ne 7, 3) := by decide +kernel
theorem d25_39 : decode prog_13_method_4_code 39 = .ok (.iconst 1, 1) := by decide +kernel
theorem d25_40 : decode prog_13_method_4_code 40 = .ok (.goto 4, 3) := by decide +kernel
theorem d25_44 : decode prog_13_method_4_code 44 = .ok (.ireturn, 1) := by decide +kernel
theorem d25_43 : decode prog_13_method_4_code 43 = .ok (.iconst 0, 1) := by decide +kernel
theorem ef_11 (m : MethodId) (x0 : Addr) (x1 : Addr) : entryFrame m #[(.ref x0), (.ref x1)] 2 = mkF m 0 #[.val (.ref x0), .val (.ref x1)] [] := by first | (simp [entryFrame, mkF, argsToLocals, Value.category]; done) | rfl
set_option maxRecDepth 65536 in
set_option maxHeartbeats 40000000 in
theorem rmOe (l : Launch) (Z : State) (a0 : Array Value) (hw : ∀ d ∈ tables_1, d.before a0 Z = true) (a b : Addr) (u0 u1 v0 v1 : Int32) (h0 : Heap) (n0 : Nat) (Z0 : n0 ≤ h0.size) (O0 : Old Z n0 h0) (cs : Int32) (SC : Sta Z Z.heap "java/lang/String" "COMPACT_STRINGS" "Z" (.int cs)) (hcs : ¬ cs = (0 : Int32)) (sa sb ya yb : Addr) (ka kb : ClassId) (o1 o2 : Int64) (E1 : Exa Z h0 a "com/example/narada/narada/ObjectAddress") (V1 : Fld Z h0 a "com/example/narada/narada/ObjectAddress" "endpoint" "Ljava/lang/String;" (.ref sa)) (W1 : Fld Z h0 a "com/example/narada/narada/ObjectAddress" "object" "J" (.long o1)) (E2 : Exa Z h0 b "com/example/narada/narada/ObjectAddress") (V2 : Fld Z h0 b "com/example/narada/narada/ObjectAddress" "endpoint" "Ljava/lang/String;" (.ref sb)) (W2 : Fld Z h0 b "com/example/narada/narada/ObjectAddress" "object" "J" (.long o2)) (PA : Str Z h0 sa ya ka (Int32.ofNat 2) [Value.int u0, Value.int u1]) (PB : Str Z h0 sb yb kb (Int32.ofNat 2) [Value.int v0, Value.int v1]) (z : Int32) (hz : z = 0 ∨ z = 1) (hP : z = 1 ↔ (v0 = u0 ∧ v1 = u1) ∧ o2 = o1) :
    Pays l Z (⟨"com/example/narada/narada/ObjectAddress", "equals", "(Ljava/lang/Object;)Z"⟩ : MethodName) prog_13_method_4_code 2 (some .boolean) [] ({ frames := 2, cells := 0, slots := 0, locals := 28 } : Room) #[(.ref a), (.ref b)] h0 (fun v h L => v = some (.int z) ∧ Fr n0 L ∧ h = h0) := by
  refine Pays.walk (plainFor_of_name pn_3) (fun m => ef_11 m a b ) ?_
  intro p e s m below meth c T0 X0 hx hby hml hown hnm hZ e0 hret hlk
  have N0 := Fr.nil n0
  by_cases hc1 : v0 = u0 ∧ v1 = u1
  · refine Goes.on (T' := T0) (g' := (mkF m 1 #[.val (.ref a), .val (.ref b)] [(.ref b)])) (fun _ k => XS.aloadN X0.here hx rfl (hb hby d25_0) rfl rfl k) ?_
    obtain ⟨T2, X2, e2, st2⟩ := instY X0 hx hZ hown (own_w hw 131 rfl) e0 (Ins.self E2) (g := (mkF m 1 #[.val (.ref a), .val (.ref b)] [(.ref b)])) rfl rfl (hb hby d25_1)
    refine Goes.on (T' := T2) (g' := (mkF m 8 #[.val (.ref a), .val (.ref b)] [(.ref b)])) (fun _ k => st2 _ (XS.ifNo X2.here hx rfl (hb hby d25_4) rfl (XT.i0_eq_f (by decide)) (XS.aloadN X2.here hx rfl (hb hby d25_7) rfl rfl k))) ?_
    obtain ⟨T3, X3, e3, st3⟩ := castY X2 hx hZ hown (own_w hw 131 rfl) e2 (Ins.self E2) (g := (mkF m 8 #[.val (.ref a), .val (.ref b)] [(.ref b)])) rfl rfl (hb hby d25_8)
    refine Goes.on (T' := T3) (g' := (mkF m 11 #[.val (.ref a), .val (.ref b)] [(.ref b)])) (fun _ k => st3 _ k) ?_
    obtain ⟨T4, X4, e4, st4⟩ := getF X3 hx hZ hown (host := "") (Or.inl (own_w hw 104 rfl)) Via.refl e3 V2 (g := (mkF m 11 #[.val (.ref a), .val (.ref b)] [(.ref b)])) rfl rfl (hb hby d25_11)
    refine Goes.on (T' := T4) (g' := (mkF m 15 #[.val (.ref a), .val (.ref b)] [(.ref a), (.ref sb)])) (fun _ k => st4 _ (XS.aloadN X4.here hx rfl (hb hby d25_14) rfl rfl k)) ?_
    obtain ⟨T5, X5, e5, st5⟩ := getF X4 hx hZ hown (host := "") (Or.inl (own_w hw 104 rfl)) Via.refl e4 V1 (g := (mkF m 15 #[.val (.ref a), .val (.ref b)] [(.ref a), (.ref sb)])) rfl rfl (hb hby d25_15)
    refine Goes.on (T' := T5) (g' := (mkF m 18 #[.val (.ref a), .val (.ref b)] [(.ref sa), (.ref sb)])) (fun _ k => st5 _ k) ?_
    refine Goes.callV X5 hx hZ 0 hown (own_w hw 52 rfl) (own_w hw 53 rfl) (notFace_of_selects (args := #[]) (mvT hZ (own_w hw 55 rfl))) (own_w hw 55 rfl) (own_w hw 54 rfl) (own_w hw 13 rfl) (own_w hw 56 rfl) (by decide) e5 (PB).1 (rmEqss l Z a0 hw sb sa v0 v1 u0 u1 h0 n0 Z0 O0 cs SC hcs yb ya kb ka PB PA (1 : Int32) (Or.inr rfl) (own_T hc1)) (by decide) (by decide) (by decide) (by decide) rfl (by rw [hml]; rfl) (argsL := [(.ref sa)]) (rest := []) rfl (lenOf pd_8 rfl) rfl (by show 2 * 0 + _ ≤ _; exact Nat.le_of_eq rfl) (hb hby d25_18) ?_
    intro v6 T6 L6 X6 hQ6
    obtain ⟨rfl, N6q, e6⟩ := hQ6
    have N6 := Fr.app N0 N6q
    show Goes p e below _ T6 (mkF m 21 #[.val (.ref a), .val (.ref b)] [(.int (1 : Int32))])
    refine Goes.on (T' := T6) (g' := (mkF m 25 #[.val (.ref a), .val (.ref b)] [(.ref b)])) (fun _ k => XS.ifNo X6.here hx rfl (hb hby d25_21) rfl (XT.i0_eq_f (by decide)) (XS.aloadN X6.here hx rfl (hb hby d25_24) rfl rfl k)) ?_
    obtain ⟨T7, X7, e7, st7⟩ := castY X6 hx hZ hown (own_w hw 131 rfl) e6 (Ins.self E2) (g := (mkF m 25 #[.val (.ref a), .val (.ref b)] [(.ref b)])) rfl rfl (hb hby d25_25)
    refine Goes.on (T' := T7) (g' := (mkF m 28 #[.val (.ref a), .val (.ref b)] [(.ref b)])) (fun _ k => st7 _ k) ?_
    obtain ⟨T8, X8, e8, st8⟩ := getF X7 hx hZ hown (host := "") (Or.inl (own_w hw 106 rfl)) Via.refl e7 W2 (g := (mkF m 28 #[.val (.ref a), .val (.ref b)] [(.ref b)])) rfl rfl (hb hby d25_28)
    refine Goes.on (T' := T8) (g' := (mkF m 32 #[.val (.ref a), .val (.ref b)] [(.ref a), (.long o2)])) (fun _ k => st8 _ (XS.aloadN X8.here hx rfl (hb hby d25_31) rfl rfl k)) ?_
    obtain ⟨T9, X9, e9, st9⟩ := getF X8 hx hZ hown (host := "") (Or.inl (own_w hw 106 rfl)) Via.refl e8 W1 (g := (mkF m 32 #[.val (.ref a), .val (.ref b)] [(.ref a), (.long o2)])) rfl rfl (hb hby d25_32)
    refine Goes.on (T' := T9) (g' := (mkF m 36 #[.val (.ref a), .val (.ref b)] [(.int (XT.cmpL o2 o1))])) (fun _ k => st9 _ (XT.lcmp X9.here hx rfl (hb hby d25_35) rfl k)) ?_
    by_cases hc10 : o2 = o1
    · refine Goes.on (T' := T9) (g' := (mkF m 44 #[.val (.ref a), .val (.ref b)] [(.int (1 : Int32))])) (fun _ k => XS.ifNo X9.here hx rfl (hb hby d25_36) rfl (XT.ll_ne_f hc10) (XS.iconst X9.here hx rfl (hb hby d25_39) (XS.goto X9.here hx rfl (pc0 := 40) (pc' := 44) rfl (hb hby d25_40) (by decide) (by decide) k))) ?_
      exact Goes.retB X9 hx hlk hret (Or.inr rfl) (hb hby d25_44) (by decide) (by decide) ⟨own_is1 hP ⟨hc1, hc10⟩, N6, e9⟩
    · refine Goes.on (T' := T9) (g' := (mkF m 44 #[.val (.ref a), .val (.ref b)] [(.int (0 : Int32))])) (fun _ k => XS.ifYes X9.here hx rfl (pc0 := 36) (pc' := 43) rfl (hb hby d25_36) rfl (XT.ll_ne_t hc10) (by decide) (by decide) (XS.iconst X9.here hx rfl (hb hby d25_43) k)) ?_
      exact Goes.retB X9 hx hlk hret (Or.inl rfl) (hb hby d25_44) (by decide) (by decide) ⟨own_is0 hz hP (fun q => hc10 q.2), N6, e9⟩
  · refine Goes.on (T' := T0) (g' := (mkF m 1 #[.val (.ref a), .val (.ref b)] [(.ref b)])) (fun _ k => XS.aloadN X0.here hx rfl (hb hby d25_0) rfl rfl k) ?_
    obtain ⟨T11, X11, e11, st11⟩ := instY X0 hx hZ hown (own_w hw 131 rfl) e0 (Ins.self E2) (g := (mkF m 1 #[.val (.ref a), .val (.ref b)] [(.ref b)])) rfl rfl (hb hby d25_1)
    refine Goes.on (T' := T11) (g' := (mkF m 8 #[.val (.ref a), .val (.ref b)] [(.ref b)])) (fun _ k => st11 _ (XS.ifNo X11.here hx rfl (hb hby d25_4) rfl (XT.i0_eq_f (by decide)) (XS.aloadN X11.here hx rfl (hb hby d25_7) rfl rfl k))) ?_
    obtain ⟨T12, X12, e12, st12⟩ := castY X11 hx hZ hown (own_w hw 131 rfl) e11 (Ins.self E2) (g := (mkF m 8 #[.val (.ref a), .val (.ref b)] [(.ref b)])) rfl rfl (hb hby d25_8)
    refine Goes.on (T' := T12) (g' := (mkF m 11 #[.val (.ref a), .val (.ref b)] [(.ref b)])) (fun _ k => st12 _ k) ?_
    obtain ⟨T13, X13, e13, st13⟩ := getF X12 hx hZ hown (host := "") (Or.inl (own_w hw 104 rfl)) Via.refl e12 V2 (g := (mkF m 11 #[.val (.ref a), .val (.ref b)] [(.ref b)])) rfl rfl (hb hby d25_11)
    refine Goes.on (T' := T13) (g' := (mkF m 15 #[.val (.ref a), .val (.ref b)] [(.ref a), (.ref sb)])) (fun _ k => st13 _ (XS.aloadN X13.here hx rfl (hb hby d25_14) rfl rfl k)) ?_
    obtain ⟨T14, X14, e14, st14⟩ := getF X13 hx hZ hown (host := "") (Or.inl (own_w hw 104 rfl)) Via.refl e13 V1 (g := (mkF m 15 #[.val (.ref a), .val (.ref b)] [(.ref a), (.ref sb)])) rfl rfl (hb hby d25_15)
    refine Goes.on (T' := T14) (g' := (mkF m 18 #[.val (.ref a), .val (.ref b)] [(.ref sa), (.ref sb)])) (fun _ k => st14 _ k) ?_
    refine Goes.callV X14 hx hZ 0 hown (own_w hw 52 rfl) (own_w hw 53 rfl) (notFace_of_selects (args := #[]) (mvT hZ (own_w hw 55 rfl))) (own_w hw 55 rfl) (own_w hw 54 rfl) (own_w hw 13 rfl) (own_w hw 56 rfl) (by decide) e14 (PB).1 (rmEqss l Z a0 hw sb sa v0 v1 u0 u1 h0 n0 Z0 O0 cs SC hcs yb ya kb ka PB PA (0 : Int32) (Or.inl rfl) (own_F hc1)) (by decide) (by decide) (by decide) (by decide) rfl (by rw [hml]; rfl) (argsL := [(.ref sa)]) (rest := []) rfl (lenOf pd_8 rfl) rfl (by show 2 * 0 + _ ≤ _; exact Nat.le_of_eq rfl) (hb hby d25_18) ?_
    intro v15 T15 L15 X15 hQ15
    obtain ⟨rfl, N15q, e15⟩ := hQ15
    have N15 := Fr.app N0 N15q
    show Goes p e below _ T15 (mkF m 21 #[.val (.ref a), .val (.ref b)] [(.int (0 : Int32))])
    refine Goes.on (T' := T15) (g' := (mkF m 44 #[.val (.ref a), .val (.ref b)] [(.int (0 : Int32))])) (fun _ k => XS.ifYes X15.here hx rfl (pc0 := 21) (pc' := 43) rfl (hb hby d25_21) rfl (XT.i0_eq_t (by decide)) (by decide) (by decide) (XS.iconst X15.here hx rfl (hb hby d25_43) k)) ?_
    exact Goes.retB X15 hx hlk hret (Or.inl rfl) (hb hby d25_44) (by decide) (by decide) ⟨own_is0 hz hP (fun q => hc1 q.1), N15, e15⟩
theorem d23_0 : decode prog_28_method_1_code 0 = .ok (.aload_n 0, 1) := by decide +kernel
theorem d23_1 : decode prog_28_method_1_code 1 = .ok (.invokespecial 1, 3) := by decide +kernel
theorem d23_4 : decode prog_28_method_1_code 4 = .ok (.aload_n 0, 1) := by decide +kernel
theorem d23_5 : decode prog_28_method_1_code 5 = .ok (.aload_n 1, 1) := by decide +kernel
theorem d23_6 : decode prog_28_method_1_code 6 = .ok (.putfield 7, 3) := by decide +kernel
theorem d23_9 : decode prog_28_method_1_code 9 = .ok (.aload_n 0, 1) := by decide +kernel
theorem d23_10 : decode prog_28_method_1_code 10 = .ok (.lload_n 2, 1) := by decide +kernel
theorem d23_11 : decode prog_28_method_1_code 11 = .ok (.putfield 13, 3) := by decide +kernel
theorem d23_14 : decode prog_28_method_1_code 14 = .ok (.return_, 1) := by decide +kernel
theorem pn_4 : plainName "com/example/narada/narada/Transfer" = true := by first | (simp [plainName, overriddenIn]; done) | decide +kernel
set_option maxRecDepth 65536 in
set_option maxHeartbeats 40000000 in
theorem rmTr (l : Launch) (Z : State) (a0 : Array Value) (hw : ∀ d ∈ tables_1, d.before a0 Z = true) (a : Addr) (x1 : Addr) (x2 : Int64) (h0 : Heap) (n0 : Nat) (Z0 : n0 ≤ h0.size) (E0 : Exa Z h0 a "com/example/narada/narada/Transfer") (ga : n0 ≤ a) (F_address : Fld Z h0 a "com/example/narada/narada/Transfer" "address" "Lcom/example/narada/narada/ObjectAddress;" .null) (F_ticket : Fld Z h0 a "com/example/narada/narada/Transfer" "ticket" "J" (.long (0 : Int64))) :
    Pays l Z (⟨"com/example/narada/narada/Transfer", "<init>", "(Lcom/example/narada/narada/ObjectAddress;J)V"⟩ : MethodName) prog_28_method_1_code 4 none [] ({ frames := 1, cells := 0, slots := 0, locals := 12 } : Room) #[(.ref a), (.ref x1), (.long x2)] h0 (fun v h L => v = none ∧ Fr n0 L ∧ Keep h0 h [a] ∧ Exa Z h a "com/example/narada/narada/Transfer" ∧ Fld Z h a "com/example/narada/narada/Transfer" "address" "Lcom/example/narada/narada/ObjectAddress;" (.ref x1) ∧ Fld Z h a "com/example/narada/narada/Transfer" "ticket" "J" (.long x2)) := by
  refine Pays.walk (plainFor_of_name pn_4) (fun m => ef_10 m a x1 x2 ) ?_
  intro p e s m below meth c T0 X0 hx hby hml hown hnm hZ e0 hret hlk
  have N0 := Fr.nil n0
  have K0 := Keep.refl h0 [a]
  refine Goes.on (T' := T0) (g' := (mkF m 1 #[.val (.ref a), .val (.ref x1), .val (.long x2), .second] [(.ref a)])) (fun _ k => XS.aloadN X0.here hx rfl (hb hby d23_0) rfl rfl k) ?_
  obtain ⟨T1, X1, e1, st1⟩ := initO X0 hx hZ hown (own_w hw 114 rfl) (own_w hw 22 rfl) (own_w hw 23 rfl) e0 (g := (mkF m 1 #[.val (.ref a), .val (.ref x1), .val (.long x2), .second] [(.ref a)])) rfl (by rw [hml]; rfl) rfl (hb hby d23_1) (by decide) (W := 0) (by show 2 * 0 + _ ≤ _; exact Nat.le_of_eq rfl) (by decide)
  refine Goes.on (T' := T1) (g' := (mkF m 6 #[.val (.ref a), .val (.ref x1), .val (.long x2), .second] [(.ref x1), (.ref a)])) (fun _ k => st1 _ (XS.aloadN X1.here hx rfl (hb hby d23_4) rfl rfl (XS.aloadN X1.here hx rfl (hb hby d23_5) rfl rfl k))) ?_
  obtain ⟨T2, h2, X2, e2, W2, st2⟩ := putF X1 hx hZ hown (host := "") (Or.inl (own_w hw 115 rfl)) Via.refl e1 F_address E0 (Or.inr ⟨(own_w hw 116 rfl), rfl, hnm⟩) (own_w hw 109 rfl) (ty := (.object "com/example/narada/narada/ObjectAddress")) (by decide) rfl rfl (g := (mkF m 6 #[.val (.ref a), .val (.ref x1), .val (.long x2), .second] [(.ref x1), (.ref a)])) rfl rfl (hb hby d23_6)
  have N2 := Fr.snoc X2 N0 ga
  have C3 := E0.wr W2
  have C4 := F_address.same W2
  have C5 := F_ticket.other W2 (Or.inr (slot_ne (Or.inr (own_w hw 118 rfl)) (Or.inr (own_w hw 116 rfl)) (by decide) (t := .long) (by decide) (t' := (.object "com/example/narada/narada/ObjectAddress")) (by decide)))
  have K7 := K0.wr W2 (Or.inl (List.mem_of_getElem? (i := 0) rfl))
  refine Goes.on (T' := T2) (g' := (mkF m 11 #[.val (.ref a), .val (.ref x1), .val (.long x2), .second] [(.long x2), (.ref a)])) (fun _ k => st2 _ (XS.aloadN X2.here hx rfl (hb hby d23_9) rfl rfl (XS.lloadN X2.here hx rfl (hb hby d23_10) rfl k))) ?_
  obtain ⟨T8, h8, X8, e8, W8, st8⟩ := putF X2 hx hZ hown (host := "") (Or.inl (own_w hw 117 rfl)) Via.refl e2 C5 C3 (Or.inr ⟨(own_w hw 118 rfl), rfl, hnm⟩) (own_w hw 109 rfl) (ty := .long) (by decide) rfl rfl (g := (mkF m 11 #[.val (.ref a), .val (.ref x1), .val (.long x2), .second] [(.long x2), (.ref a)])) rfl rfl (hb hby d23_11)
  have N8 := Fr.snoc X8 N2 ga
  have C9 := C3.wr W8
  have C10 := C4.other W8 (Or.inr (slot_ne (Or.inr (own_w hw 116 rfl)) (Or.inr (own_w hw 118 rfl)) (by decide) (t := (.object "com/example/narada/narada/ObjectAddress")) (by decide) (t' := .long) (by decide)))
  have C11 := C5.same W8
  have K13 := K7.wr W8 (Or.inl (List.mem_of_getElem? (i := 0) rfl))
  refine Goes.on (T' := T8) (g' := (mkF m 14 #[.val (.ref a), .val (.ref x1), .val (.long x2), .second] [])) (fun _ k => st8 _ k) ?_
  exact Goes.retV X8 hx hlk hret (hb hby d23_14) (by decide) (by decide) (by rw [e8]; exact ⟨rfl, N8, K13, C9, C10, C11⟩)
theorem d24_0 : decode prog_28_method_4_code 0 = .ok (.aload_n 1, 1) := by decide +kernel
theorem d24_1 : decode prog_28_method_4_code 1 = .ok (.instanceof 8, 3) := by decide +kernel
theorem d24_4 : decode prog_28_method_4_code 4 = .ok (.ifCond .eq 39, 3) := by decide +kernel
theorem d24_43 : decode prog_28_method_4_code 43 = .ok (.iconst 0, 1) := by decide +kernel
theorem d24_44 : decode prog_28_method_4_code 44 = .ok (.ireturn, 1) := by decide +kernel
theorem ef_12 (m : MethodId) (x0 : Addr) : entryFrame m #[(.ref x0), .null] 2 = mkF m 0 #[.val (.ref x0), .val .null] [] := by first | (simp [entryFrame, mkF, argsToLocals, Value.category]; done) | rfl
set_option maxRecDepth 65536 in
set_option maxHeartbeats 40000000 in
theorem rmTeN (l : Launch) (Z : State) (a0 : Array Value) (hw : ∀ d ∈ tables_1, d.before a0 Z = true) (a : Addr) (h0 : Heap) (n0 : Nat) (Z0 : n0 ≤ h0.size) :
    Pays l Z (⟨"com/example/narada/narada/Transfer", "equals", "(Ljava/lang/Object;)Z"⟩ : MethodName) prog_28_method_4_code 2 (some .boolean) [] ({ frames := 0, cells := 0, slots := 0, locals := 0 } : Room) #[(.ref a), .null] h0 (fun v h L => v = some (.int (0 : Int32)) ∧ Fr n0 L ∧ h = h0) := by
  refine Pays.walk (plainFor_of_name pn_4) (fun m => ef_12 m a  ) ?_
  intro p e s m below meth c T0 X0 hx hby hml hown hnm hZ e0 hret hlk
  have N0 := Fr.nil n0
  refine Goes.on (T' := T0) (g' := (mkF m 44 #[.val (.ref a), .val .null] [(.int (0 : Int32))])) (fun _ k => XS.aloadN X0.here hx rfl (hb hby d24_0) rfl rfl (X0.instanceofNull hx (g := (mkF m 1 #[.val (.ref a), .val .null] [.null])) rfl rfl (hb hby d24_1) _ (XS.ifYes X0.here hx rfl (pc0 := 4) (pc' := 43) rfl (hb hby d24_4) rfl (XT.i0_eq_t (by decide)) (by decide) (by decide) (XS.iconst X0.here hx rfl (hb hby d24_43) k)))) ?_
  exact Goes.retB X0 hx hlk hret (Or.inl rfl) (hb hby d24_44) (by decide) (by decide) ⟨rfl, N0, e0⟩
set_option maxRecDepth 65536 in
set_option maxHeartbeats 40000000 in
theorem rmTeO (l : Launch) (Z : State) (a0 : Array Value) (hw : ∀ d ∈ tables_1, d.before a0 Z = true) (a b : Addr) (h0 : Heap) (n0 : Nat) (Z0 : n0 ≤ h0.size) (E2 : Exa Z h0 b "com/example/narada/narada/ObjectAddress") :
    Pays l Z (⟨"com/example/narada/narada/Transfer", "equals", "(Ljava/lang/Object;)Z"⟩ : MethodName) prog_28_method_4_code 2 (some .boolean) [] ({ frames := 0, cells := 0, slots := 0, locals := 0 } : Room) #[(.ref a), (.ref b)] h0 (fun v h L => v = some (.int (0 : Int32)) ∧ Fr n0 L ∧ h = h0) := by
  refine Pays.walk (plainFor_of_name pn_4) (fun m => ef_11 m a b ) ?_
  intro p e s m below meth c T0 X0 hx hby hml hown hnm hZ e0 hret hlk
  have N0 := Fr.nil n0
  refine Goes.on (T' := T0) (g' := (mkF m 1 #[.val (.ref a), .val (.ref b)] [(.ref b)])) (fun _ k => XS.aloadN X0.here hx rfl (hb hby d24_0) rfl rfl k) ?_
  obtain ⟨T1, X1, e1, st1⟩ := instNo X0 hx hZ hown (own_w hw 124 rfl) e0 E2 (nsNo (own_w hw 133 rfl) (own_w hw 109 rfl) (NS.step (own_w hw 133 rfl) (nsRoot (own_w hw 134 rfl) (own_w hw 109 rfl) (by decide)) (by decide)) (by decide)) (g := (mkF m 1 #[.val (.ref a), .val (.ref b)] [(.ref b)])) rfl rfl (hb hby d24_1)
  refine Goes.on (T' := T1) (g' := (mkF m 44 #[.val (.ref a), .val (.ref b)] [(.int (0 : Int32))])) (fun _ k => st1 _ (XS.ifYes X1.here hx rfl (pc0 := 4) (pc' := 43) rfl (hb hby d24_4) rfl (XT.i0_eq_t (by decide)) (by decide) (by decide) (XS.iconst X1.here hx rfl (hb hby d24_43) k))) ?_
  exact Goes.retB X1 hx hlk hret (Or.inl rfl) (hb hby d24_44) (by decide) (by decide) ⟨rfl, N0, e1⟩
theorem d24_7 : decode prog_28_method_4_code 7 = .ok (.aload_n 1, 1) := by decide +kernel
theorem d24_8 : decode prog_28_method_4_code 8 = .ok (.checkcast 8, 3) := by decide +kernel
theorem d24_11 : decode prog_28_method_4_code 11 = .ok (.getfield 7, 3) := by decide +kernel
theorem d24_14 : decode prog_28_method_4_code 14 = .ok (.aload_n 0, 1) := by decide +kernel
theorem d24_15 : decode prog_28_method_4_code 15 = .ok (.getfield 7, 3) := by decide +kernel
theorem d24_18 : decode prog_28_method_4_code 18 = .ok (.invokevirtual 17, 3) := by decide +kernel
theorem d24_21 : decode prog_28_method_4_code 21 = .ok (.ifCond .eq 22, 3) := by decide +kernel
theorem d24_24 : decode prog_28_method_4_code 24 = .ok (.aload_n 1, 1) := by decide +kernel
theorem d24_25 : decode prog_28_method_4_code 25 = .ok (.checkcast 8, 3) := by decide +kernel
theorem d24_28 : decode prog_28_method_4_code 28 = .ok (.getfield 13, 3) := by decide +kernel
theorem d24_31 : decode prog_28_method_4_code 31 = .ok (.aload_n 0, 1) := by decide +kernel
theorem d24_32 : decode prog_28_method_4_code 32 = .ok (.getfield 13, 3) := by decide +kernel
theorem d24_35 : decode prog_28_method_4_code 35 = .ok (.lcmp, 1) := by decide +kernel
theorem d24_36 : decode prog_28_method_4_code 36 = .ok (.ifCond .ne 7, 3) := by decide +kernel
theorem d24_39 : decode prog_28_method_4_code 39 = .ok (.iconst 1, 1) := by decide +kernel
theorem d24_40 : decode prog_28_method_4_code 40 = .ok (.goto 4, 3) := by decide +kernel
set_option maxRecDepth 65536 in
set_option maxHeartbeats 40000000 in
theorem rmTe (l : Launch) (Z : State) (a0 : Array Value) (hw : ∀ d ∈ tables_1, d.before a0 Z = true) (a b : Addr) (u0 u1 v0 v1 : Int32) (h0 : Heap) (n0 : Nat) (Z0 : n0 ≤ h0.size) (O0 : Old Z n0 h0) (cs : Int32) (SC : Sta Z Z.heap "java/lang/String" "COMPACT_STRINGS" "Z" (.int cs)) (hcs : ¬ cs = (0 : Int32)) (pa pb sa sb ya yb : Addr) (ka kb : ClassId) (o1 o2 t1 t2 : Int64) (F1 : Exa Z h0 a "com/example/narada/narada/Transfer") (A1 : Fld Z h0 a "com/example/narada/narada/Transfer" "address" "Lcom/example/narada/narada/ObjectAddress;" (.ref pa)) (tk1 : Fld Z h0 a "com/example/narada/narada/Transfer" "ticket" "J" (.long t1)) (E1 : Exa Z h0 pa "com/example/narada/narada/ObjectAddress") (V1 : Fld Z h0 pa "com/example/narada/narada/ObjectAddress" "endpoint" "Ljava/lang/String;" (.ref sa)) (W1 : Fld Z h0 pa "com/example/narada/narada/ObjectAddress" "object" "J" (.long o1)) (F2 : Exa Z h0 b "com/example/narada/narada/Transfer") (A2 : Fld Z h0 b "com/example/narada/narada/Transfer" "address" "Lcom/example/narada/narada/ObjectAddress;" (.ref pb)) (tk2 : Fld Z h0 b "com/example/narada/narada/Transfer" "ticket" "J" (.long t2)) (E2 : Exa Z h0 pb "com/example/narada/narada/ObjectAddress") (V2 : Fld Z h0 pb "com/example/narada/narada/ObjectAddress" "endpoint" "Ljava/lang/String;" (.ref sb)) (W2 : Fld Z h0 pb "com/example/narada/narada/ObjectAddress" "object" "J" (.long o2)) (PA : Str Z h0 sa ya ka (Int32.ofNat 2) [Value.int u0, Value.int u1]) (PB : Str Z h0 sb yb kb (Int32.ofNat 2) [Value.int v0, Value.int v1]) (z : Int32) (hz : z = 0 ∨ z = 1) (hP : z = 1 ↔ ((u0 = v0 ∧ u1 = v1) ∧ o1 = o2) ∧ t2 = t1) :
    Pays l Z (⟨"com/example/narada/narada/Transfer", "equals", "(Ljava/lang/Object;)Z"⟩ : MethodName) prog_28_method_4_code 2 (some .boolean) [] ({ frames := 3, cells := 0, slots := 0, locals := 41 } : Room) #[(.ref a), (.ref b)] h0 (fun v h L => v = some (.int z) ∧ Fr n0 L ∧ h = h0) := by
  refine Pays.walk (plainFor_of_name pn_4) (fun m => ef_11 m a b ) ?_
  intro p e s m below meth c T0 X0 hx hby hml hown hnm hZ e0 hret hlk
  have N0 := Fr.nil n0
  by_cases hc1 : (u0 = v0 ∧ u1 = v1) ∧ o1 = o2
  · refine Goes.on (T' := T0) (g' := (mkF m 1 #[.val (.ref a), .val (.ref b)] [(.ref b)])) (fun _ k => XS.aloadN X0.here hx rfl (hb hby d24_0) rfl rfl k) ?_
    obtain ⟨T2, X2, e2, st2⟩ := instY X0 hx hZ hown (own_w hw 124 rfl) e0 (Ins.self F2) (g := (mkF m 1 #[.val (.ref a), .val (.ref b)] [(.ref b)])) rfl rfl (hb hby d24_1)
    refine Goes.on (T' := T2) (g' := (mkF m 8 #[.val (.ref a), .val (.ref b)] [(.ref b)])) (fun _ k => st2 _ (XS.ifNo X2.here hx rfl (hb hby d24_4) rfl (XT.i0_eq_f (by decide)) (XS.aloadN X2.here hx rfl (hb hby d24_7) rfl rfl k))) ?_
    obtain ⟨T3, X3, e3, st3⟩ := castY X2 hx hZ hown (own_w hw 124 rfl) e2 (Ins.self F2) (g := (mkF m 8 #[.val (.ref a), .val (.ref b)] [(.ref b)])) rfl rfl (hb hby d24_8)
    refine Goes.on (T' := T3) (g' := (mkF m 11 #[.val (.ref a), .val (.ref b)] [(.ref b)])) (fun _ k => st3 _ k) ?_
    obtain ⟨T4, X4, e4, st4⟩ := getF X3 hx hZ hown (host := "") (Or.inl (own_w hw 115 rfl)) Via.refl e3 A2 (g := (mkF m 11 #[.val (.ref a), .val (.ref b)] [(.ref b)])) rfl rfl (hb hby d24_11)
    refine Goes.on (T' := T4) (g' := (mkF m 15 #[.val (.ref a), .val (.ref b)] [(.ref a), (.ref pb)])) (fun _ k => st4 _ (XS.aloadN X4.here hx rfl (hb hby d24_14) rfl rfl k)) ?_
    obtain ⟨T5, X5, e5, st5⟩ := getF X4 hx hZ hown (host := "") (Or.inl (own_w hw 115 rfl)) Via.refl e4 A1 (g := (mkF m 15 #[.val (.ref a), .val (.ref b)] [(.ref a), (.ref pb)])) rfl rfl (hb hby d24_15)
    refine Goes.on (T' := T5) (g' := (mkF m 18 #[.val (.ref a), .val (.ref b)] [(.ref pa), (.ref pb)])) (fun _ k => st5 _ k) ?_
    refine Goes.callV X5 hx hZ 0 hown (own_w hw 126 rfl) (own_w hw 127 rfl) (notFace_of_selects (args := #[]) (mvT hZ (own_w hw 129 rfl))) (own_w hw 129 rfl) (own_w hw 128 rfl) (own_w hw 10 rfl) (own_w hw 130 rfl) (by decide) e5 E2 (rmOe l Z a0 hw pb pa v0 v1 u0 u1 h0 n0 Z0 O0 cs SC hcs sb sa yb ya kb ka o2 o1 E2 V2 W2 E1 V1 W1 PB PA (1 : Int32) (Or.inr rfl) (own_T hc1)) (by decide) (by decide) (by decide) (by decide) rfl (by rw [hml]; rfl) (argsL := [(.ref pa)]) (rest := []) rfl (lenOf pd_8 rfl) rfl (by show 2 * 0 + _ ≤ _; exact Nat.le_of_eq rfl) (hb hby d24_18) ?_
    intro v6 T6 L6 X6 hQ6
    obtain ⟨rfl, N6q, e6⟩ := hQ6
    have N6 := Fr.app N0 N6q
    show Goes p e below _ T6 (mkF m 21 #[.val (.ref a), .val (.ref b)] [(.int (1 : Int32))])
    refine Goes.on (T' := T6) (g' := (mkF m 25 #[.val (.ref a), .val (.ref b)] [(.ref b)])) (fun _ k => XS.ifNo X6.here hx rfl (hb hby d24_21) rfl (XT.i0_eq_f (by decide)) (XS.aloadN X6.here hx rfl (hb hby d24_24) rfl rfl k)) ?_
    obtain ⟨T7, X7, e7, st7⟩ := castY X6 hx hZ hown (own_w hw 124 rfl) e6 (Ins.self F2) (g := (mkF m 25 #[.val (.ref a), .val (.ref b)] [(.ref b)])) rfl rfl (hb hby d24_25)
    refine Goes.on (T' := T7) (g' := (mkF m 28 #[.val (.ref a), .val (.ref b)] [(.ref b)])) (fun _ k => st7 _ k) ?_
    obtain ⟨T8, X8, e8, st8⟩ := getF X7 hx hZ hown (host := "") (Or.inl (own_w hw 117 rfl)) Via.refl e7 tk2 (g := (mkF m 28 #[.val (.ref a), .val (.ref b)] [(.ref b)])) rfl rfl (hb hby d24_28)
    refine Goes.on (T' := T8) (g' := (mkF m 32 #[.val (.ref a), .val (.ref b)] [(.ref a), (.long t2)])) (fun _ k => st8 _ (XS.aloadN X8.here hx rfl (hb hby d24_31) rfl rfl k)) ?_
    obtain ⟨T9, X9, e9, st9⟩ := getF X8 hx hZ hown (host := "") (Or.inl (own_w hw 117 rfl)) Via.refl e8 tk1 (g := (mkF m 32 #[.val (.ref a), .val (.ref b)] [(.ref a), (.long t2)])) rfl rfl (hb hby d24_32)
    refine Goes.on (T' := T9) (g' := (mkF m 36 #[.val (.ref a), .val (.ref b)] [(.int (XT.cmpL t2 t1))])) (fun _ k => st9 _ (XT.lcmp X9.here hx rfl (hb hby d24_35) rfl k)) ?_
    by_cases hc10 : t2 = t1
    · refine Goes.on (T' := T9) (g' := (mkF m 44 #[.val (.ref a), .val (.ref b)] [(.int (1 : Int32))])) (fun _ k => XS.ifNo X9.here hx rfl (hb hby d24_36) rfl (XT.ll_ne_f hc10) (XS.iconst X9.here hx rfl (hb hby d24_39) (XS.goto X9.here hx rfl (pc0 := 40) (pc' := 44) rfl (hb hby d24_40) (by decide) (by decide) k))) ?_
      exact Goes.retB X9 hx hlk hret (Or.inr rfl) (hb hby d24_44) (by decide) (by decide) ⟨own_is1 hP ⟨hc1, hc10⟩, N6, e9⟩
    · refine Goes.on (T' := T9) (g' := (mkF m 44 #[.val (.ref a), .val (.ref b)] [(.int (0 : Int32))])) (fun _ k => XS.ifYes X9.here hx rfl (pc0 := 36) (pc' := 43) rfl (hb hby d24_36) rfl (XT.ll_ne_t hc10) (by decide) (by decide) (XS.iconst X9.here hx rfl (hb hby d24_43) k)) ?_
      exact Goes.retB X9 hx hlk hret (Or.inl rfl) (hb hby d24_44) (by decide) (by decide) ⟨own_is0 hz hP (fun q => hc10 q.2), N6, e9⟩
  · refine Goes.on (T' := T0) (g' := (mkF m 1 #[.val (.ref a), .val (.ref b)] [(.ref b)])) (fun _ k => XS.aloadN X0.here hx rfl (hb hby d24_0) rfl rfl k) ?_
    obtain ⟨T11, X11, e11, st11⟩ := instY X0 hx hZ hown (own_w hw 124 rfl) e0 (Ins.self F2) (g := (mkF m 1 #[.val (.ref a), .val (.ref b)] [(.ref b)])) rfl rfl (hb hby d24_1)
    refine Goes.on (T' := T11) (g' := (mkF m 8 #[.val (.ref a), .val (.ref b)] [(.ref b)])) (fun _ k => st11 _ (XS.ifNo X11.here hx rfl (hb hby d24_4) rfl (XT.i0_eq_f (by decide)) (XS.aloadN X11.here hx rfl (hb hby d24_7) rfl rfl k))) ?_
    obtain ⟨T12, X12, e12, st12⟩ := castY X11 hx hZ hown (own_w hw 124 rfl) e11 (Ins.self F2) (g := (mkF m 8 #[.val (.ref a), .val (.ref b)] [(.ref b)])) rfl rfl (hb hby d24_8)
    refine Goes.on (T' := T12) (g' := (mkF m 11 #[.val (.ref a), .val (.ref b)] [(.ref b)])) (fun _ k => st12 _ k) ?_
    obtain ⟨T13, X13, e13, st13⟩ := getF X12 hx hZ hown (host := "") (Or.inl (own_w hw 115 rfl)) Via.refl e12 A2 (g := (mkF m 11 #[.val (.ref a), .val (.ref b)] [(.ref b)])) rfl rfl (hb hby d24_11)
    refine Goes.on (T' := T13) (g' := (mkF m 15 #[.val (.ref a), .val (.ref b)] [(.ref a), (.ref pb)])) (fun _ k => st13 _ (XS.aloadN X13.here hx rfl (hb hby d24_14) rfl rfl k)) ?_
    obtain ⟨T14, X14, e14, st14⟩ := getF X13 hx hZ hown (host := "") (Or.inl (own_w hw 115 rfl)) Via.refl e13 A1 (g := (mkF m 15 #[.val (.ref a), .val (.ref b)] [(.ref a), (.ref pb)])) rfl rfl (hb hby d24_15)
    refine Goes.on (T' := T14) (g' := (mkF m 18 #[.val (.ref a), .val (.ref b)] [(.ref pa), (.ref pb)])) (fun _ k => st14 _ k) ?_
    refine Goes.callV X14 hx hZ 0 hown (own_w hw 126 rfl) (own_w hw 127 rfl) (notFace_of_selects (args := #[]) (mvT hZ (own_w hw 129 rfl))) (own_w hw 129 rfl) (own_w hw 128 rfl) (own_w hw 10 rfl) (own_w hw 130 rfl) (by decide) e14 E2 (rmOe l Z a0 hw pb pa v0 v1 u0 u1 h0 n0 Z0 O0 cs SC hcs sb sa yb ya kb ka o2 o1 E2 V2 W2 E1 V1 W1 PB PA (0 : Int32) (Or.inl rfl) (own_F hc1)) (by decide) (by decide) (by decide) (by decide) rfl (by rw [hml]; rfl) (argsL := [(.ref pa)]) (rest := []) rfl (lenOf pd_8 rfl) rfl (by show 2 * 0 + _ ≤ _; exact Nat.le_of_eq rfl) (hb hby d24_18) ?_
    intro v15 T15 L15 X15 hQ15
    obtain ⟨rfl, N15q, e15⟩ := hQ15
    have N15 := Fr.app N0 N15q
    show Goes p e below _ T15 (mkF m 21 #[.val (.ref a), .val (.ref b)] [(.int (0 : Int32))])
    refine Goes.on (T' := T15) (g' := (mkF m 44 #[.val (.ref a), .val (.ref b)] [(.int (0 : Int32))])) (fun _ k => XS.ifYes X15.here hx rfl (pc0 := 21) (pc' := 43) rfl (hb hby d24_21) rfl (XT.i0_eq_t (by decide)) (by decide) (by decide) (XS.iconst X15.here hx rfl (hb hby d24_43) k)) ?_
    exact Goes.retB X15 hx hlk hret (Or.inl rfl) (hb hby d24_44) (by decide) (by decide) ⟨own_is0 hz hP (fun q => hc1 q.1), N15, e15⟩
theorem pd_10 : parseMethodDescriptor "(CI)C" = some ⟨[.char, .int], some .char⟩ := by decide +kernel
theorem pd_11 : parseMethodDescriptor "([C)V" = some ⟨[(.array .char)], none⟩ := by decide +kernel
theorem pd_12 : parseMethodDescriptor "(Ljava/lang/String;J)V" = some ⟨[(.object "java/lang/String"), .long], none⟩ := by decide +kernel
theorem pd_13 : parseMethodDescriptor "(Lcom/example/narada/narada/ObjectAddress;J)V" = some ⟨[(.object "com/example/narada/narada/ObjectAddress"), .long], none⟩ := by decide +kernel
theorem ef_13 (m : MethodId) (x0 : Int32) (x1 : Int32) (x2 : Int64) (x3 : Int64) (x4 : Int64) (x5 : Int64) : entryFrame m #[(.int x0), (.int x1), (.long x2), (.long x3), (.long x4), (.long x5)] maxLocals = mkF m 0 #[.val (.int x0), .val (.int x1), .val (.long x2), .second, .val (.long x3), .second, .val (.long x4), .second, .val (.long x5), .second, .unset, .unset, .unset, .unset, .unset, .unset, .unset, .unset, .unset, .unset, .unset, .unset] [] := by first | (simp [entryFrame, mkF, argsToLocals, Value.category, maxLocals]; done) | rfl
set_option maxRecDepth 65536 in
set_option maxHeartbeats 40000000 in
theorem rm0 (l : Launch) (Z : State) (a0 : Array Value) (hw : ∀ d ∈ tables_1, d.before a0 Z = true) (x0 x1 : Int32) (x2 x3 x4 x5 : Int64) (h0 : Heap) (n0 : Nat) (Z0 : n0 ≤ h0.size) (hEL : EW Z a0 consts_1) (O0 : Old Z n0 h0) (cs : Int32) (SC : Sta Z Z.heap "java/lang/String" "COMPACT_STRINGS" "Z" (.int cs)) (hcs : ¬ cs = (0 : Int32)) :
    PaysW l Z consts_1 x code maxLocals ret tables_1 room_1 #[(.int x0), (.int x1), (.long x2), (.long x3), (.long x4), (.long x5)] h0 (fun v h L => v = some (.int (1 : Int32)) ∧ Fr n0 L) := by
  refine PaysW.walk (plainFor_of_name pn_0) (fun m => ef_13 m x0 x1 x2 x3 x4 x5 ) ?_
  intro p e s m below meth c T0 X0 hx hby hml hown hnm hZ e0 hret hlk hS0 RR0
  have hk0 : 0 ≤ h0.size := Nat.zero_le _
  have S0 : h0.size ≤ h0.size := Nat.le_refl _
  have wS := own_wS hw
  have hown : (s.setVm s.vm).vm.findClass "com/example/narada/narada/TransferEqualsPinLaw" = some m.cls := hown
  have N0 := Fr.nil n0
  refine Goes.on (T' := T0) (g' := (mkF m 1 #[.val (.int x0), .val (.int x1), .val (.long x2), .second, .val (.long x3), .second, .val (.long x4), .second, .val (.long x5), .second, .unset, .unset, .unset, .unset, .unset, .unset, .unset, .unset, .unset, .unset, .unset, .unset] [(.int x0)])) (fun _ k => XS.iloadN X0.here hx rfl (hb hby at_0) rfl k) ?_
  refine Goes.callS X0 hx hZ 0 hown (own_w hw 0 rfl) (own_w hw 1 rfl) (own_w hw 2 rfl) (own_w hw 3 rfl) (by decide) e0 (rmch l Z a0 hw x0 h0 n0 Z0) (by decide) (by decide) (by decide) (by decide) rfl (by rw [hml]; rfl) (argsL := [(.int x0)]) (rest := []) rfl (lenOf pd_0 rfl) rfl (by show 2 * 0 + _ ≤ _; exact Nat.le_of_eq rfl) (hb hby at_1) ?_
  intro v1 T1 L1 X1 hQ1
  obtain ⟨rfl, N1q, e1⟩ := hQ1
  have N1 := Fr.app N0 N1q
  show Goes p e below _ T1 (mkF m 4 #[.val (.int x0), .val (.int x1), .val (.long x2), .second, .val (.long x3), .second, .val (.long x4), .second, .val (.long x5), .second, .unset, .unset, .unset, .unset, .unset, .unset, .unset, .unset, .unset, .unset, .unset, .unset] [(.int (Fch x0))])
  have hc0 := own_ch x0
  generalize Fch x0 = c0 at hc0 ⊢
  refine Goes.on (T' := T1) (g' := (mkF m 12 #[.val (.int x0), .val (.int x1), .val (.long x2), .second, .val (.long x3), .second, .val (.long x4), .second, .val (.long x5), .second, .val (.int c0), .unset, .unset, .unset, .unset, .unset, .unset, .unset, .unset, .unset, .unset, .unset] [(.int ((x0.toUInt32 >>> ((8 : Int32) &&& 31).toUInt32).toInt32)), (.int c0)])) (fun _ k => XS.istore X1.here hx rfl (hb hby at_4) rfl (l' := #[.val (.int x0), .val (.int x1), .val (.long x2), .second, .val (.long x3), .second, .val (.long x4), .second, .val (.long x5), .second, .val (.int c0), .unset, .unset, .unset, .unset, .unset, .unset, .unset, .unset, .unset, .unset, .unset]) rfl (XS.iload X1.here hx rfl (hb hby at_6) rfl (XS.iloadN X1.here hx rfl (hb hby at_8) rfl (XS.bipush X1.here hx rfl (hb hby at_9) (XS.iushr X1.here hx rfl (hb hby at_11) rfl k))))) ?_
  refine Goes.callS X1 hx hZ 0 hown (own_w hw 4 rfl) (own_w hw 5 rfl) (own_w hw 2 rfl) (own_w hw 6 rfl) (by decide) e1 (rmsec l Z a0 hw c0 ((x0.toUInt32 >>> ((8 : Int32) &&& 31).toUInt32).toInt32) h0 n0 Z0) (by decide) (by decide) (by decide) (by decide) rfl (by rw [hml]; rfl) (argsL := [(.int c0), (.int ((x0.toUInt32 >>> ((8 : Int32) &&& 31).toUInt32).toInt32))]) (rest := []) rfl (lenOf pd_10 rfl) rfl (by show 2 * 0 + _ ≤ _; exact Nat.le_of_eq rfl) (hb hby at_12) ?_
  intro v2 T2 L2 X2 hQ2
  obtain ⟨rfl, N2q, e2⟩ := hQ2
  have N2 := Fr.app N1 N2q
  show Goes p e below _ T2 (mkF m 15 #[.val (.int x0), .val (.int x1), .val (.long x2), .second, .val (.long x3), .second, .val (.long x4), .second, .val (.long x5), .second, .val (.int c0), .unset, .unset, .unset, .unset, .unset, .unset, .unset, .unset, .unset, .unset, .unset] [(.int (Fsec c0 ((x0.toUInt32 >>> ((8 : Int32) &&& 31).toUInt32).toInt32)))])
  have hc1 := own_sec c0 ((x0.toUInt32 >>> ((8 : Int32) &&& 31).toUInt32).toInt32)
  generalize Fsec c0 ((x0.toUInt32 >>> ((8 : Int32) &&& 31).toUInt32).toInt32) = c1 at hc1 ⊢
  refine Goes.on (T' := T2) (g' := (mkF m 18 #[.val (.int x0), .val (.int x1), .val (.long x2), .second, .val (.long x3), .second, .val (.long x4), .second, .val (.long x5), .second, .val (.int c0), .val (.int c1), .unset, .unset, .unset, .unset, .unset, .unset, .unset, .unset, .unset, .unset] [(.int x1)])) (fun _ k => XS.istore X2.here hx rfl (hb hby at_15) rfl (l' := #[.val (.int x0), .val (.int x1), .val (.long x2), .second, .val (.long x3), .second, .val (.long x4), .second, .val (.long x5), .second, .val (.int c0), .val (.int c1), .unset, .unset, .unset, .unset, .unset, .unset, .unset, .unset, .unset, .unset]) rfl (XS.iloadN X2.here hx rfl (hb hby at_17) rfl k)) ?_
  refine Goes.callS X2 hx hZ 0 hown (own_w hw 0 rfl) (own_w hw 1 rfl) (own_w hw 2 rfl) (own_w hw 3 rfl) (by decide) e2 (rmch l Z a0 hw x1 h0 n0 Z0) (by decide) (by decide) (by decide) (by decide) rfl (by rw [hml]; rfl) (argsL := [(.int x1)]) (rest := []) rfl (lenOf pd_0 rfl) rfl (by show 2 * 0 + _ ≤ _; exact Nat.le_of_eq rfl) (hb hby at_18) ?_
  intro v3 T3 L3 X3 hQ3
  obtain ⟨rfl, N3q, e3⟩ := hQ3
  have N3 := Fr.app N2 N3q
  show Goes p e below _ T3 (mkF m 21 #[.val (.int x0), .val (.int x1), .val (.long x2), .second, .val (.long x3), .second, .val (.long x4), .second, .val (.long x5), .second, .val (.int c0), .val (.int c1), .unset, .unset, .unset, .unset, .unset, .unset, .unset, .unset, .unset, .unset] [(.int (Fch x1))])
  have hd0 := own_ch x1
  generalize Fch x1 = d0 at hd0 ⊢
  refine Goes.on (T' := T3) (g' := (mkF m 29 #[.val (.int x0), .val (.int x1), .val (.long x2), .second, .val (.long x3), .second, .val (.long x4), .second, .val (.long x5), .second, .val (.int c0), .val (.int c1), .val (.int d0), .unset, .unset, .unset, .unset, .unset, .unset, .unset, .unset, .unset] [(.int ((x1.toUInt32 >>> ((8 : Int32) &&& 31).toUInt32).toInt32)), (.int d0)])) (fun _ k => XS.istore X3.here hx rfl (hb hby at_21) rfl (l' := #[.val (.int x0), .val (.int x1), .val (.long x2), .second, .val (.long x3), .second, .val (.long x4), .second, .val (.long x5), .second, .val (.int c0), .val (.int c1), .val (.int d0), .unset, .unset, .unset, .unset, .unset, .unset, .unset, .unset, .unset]) rfl (XS.iload X3.here hx rfl (hb hby at_23) rfl (XS.iloadN X3.here hx rfl (hb hby at_25) rfl (XS.bipush X3.here hx rfl (hb hby at_26) (XS.iushr X3.here hx rfl (hb hby at_28) rfl k))))) ?_
  refine Goes.callS X3 hx hZ 0 hown (own_w hw 4 rfl) (own_w hw 5 rfl) (own_w hw 2 rfl) (own_w hw 6 rfl) (by decide) e3 (rmsec l Z a0 hw d0 ((x1.toUInt32 >>> ((8 : Int32) &&& 31).toUInt32).toInt32) h0 n0 Z0) (by decide) (by decide) (by decide) (by decide) rfl (by rw [hml]; rfl) (argsL := [(.int d0), (.int ((x1.toUInt32 >>> ((8 : Int32) &&& 31).toUInt32).toInt32))]) (rest := []) rfl (lenOf pd_10 rfl) rfl (by show 2 * 0 + _ ≤ _; exact Nat.le_of_eq rfl) (hb hby at_29) ?_
  intro v4 T4 L4 X4 hQ4
  obtain ⟨rfl, N4q, e4⟩ := hQ4
  have N4 := Fr.app N3 N4q
  show Goes p e below _ T4 (mkF m 32 #[.val (.int x0), .val (.int x1), .val (.long x2), .second, .val (.long x3), .second, .val (.long x4), .second, .val (.long x5), .second, .val (.int c0), .val (.int c1), .val (.int d0), .unset, .unset, .unset, .unset, .unset, .unset, .unset, .unset, .unset] [(.int (Fsec d0 ((x1.toUInt32 >>> ((8 : Int32) &&& 31).toUInt32).toInt32)))])
  have hd1 := own_sec d0 ((x1.toUInt32 >>> ((8 : Int32) &&& 31).toUInt32).toInt32)
  generalize Fsec d0 ((x1.toUInt32 >>> ((8 : Int32) &&& 31).toUInt32).toInt32) = d1 at hd1 ⊢
  refine Goes.on (T' := T4) (g' := (mkF m 35 #[.val (.int x0), .val (.int x1), .val (.long x2), .second, .val (.long x3), .second, .val (.long x4), .second, .val (.long x5), .second, .val (.int c0), .val (.int c1), .val (.int d0), .val (.int d1), .unset, .unset, .unset, .unset, .unset, .unset, .unset, .unset] [(.int (2 : Int32))])) (fun _ k => XS.istore X4.here hx rfl (hb hby at_32) rfl (l' := #[.val (.int x0), .val (.int x1), .val (.long x2), .second, .val (.long x3), .second, .val (.long x4), .second, .val (.long x5), .second, .val (.int c0), .val (.int c1), .val (.int d0), .val (.int d1), .unset, .unset, .unset, .unset, .unset, .unset, .unset, .unset]) rfl (XS.iconst X4.here hx rfl (hb hby at_34) k)) ?_
  obtain ⟨T5, h5, cA5, X5, e5, E5, A5, J5, st5⟩ := newPE X4 hx hZ (own_w hw 7 rfl) e4 (g := (mkF m 35 #[.val (.int x0), .val (.int x1), .val (.long x2), .second, .val (.long x3), .second, .val (.long x4), .second, .val (.long x5), .second, .val (.int c0), .val (.int c1), .val (.int d0), .val (.int d1), .unset, .unset, .unset, .unset, .unset, .unset, .unset, .unset] [(.int (2 : Int32))])) rfl (hb hby at_35) rfl (by decide) (cap := 2) (by decide) (by decide) (by decide) (by decide) (ad := "[C") (by decide)
  obtain ⟨a5, g5⟩ : ∃ z, z = h0.size := ⟨_, rfl⟩
  rw [← g5] at A5 J5 st5
  have C6 := O0.ext E5
  have Z7 : n0 ≤ h5.size := Nat.le_trans Z0 E5.1
  have Z8 : 0 ≤ h5.size := Nat.le_trans hk0 E5.1
  have RR10 := RR0.trans (CHr.ext E5 RR0.1)
  have B5 : Arf Z h5 a5 .char Value.int 2 (fun _ => (0 : Int32)) := Arf.new A5 rfl
  have G5 : n0 ≤ a5 := Nat.le_trans Z0 (Nat.le_of_eq g5.symm)
  refine Goes.on (T' := T5) (g' := (mkF m 44 #[.val (.int x0), .val (.int x1), .val (.long x2), .second, .val (.long x3), .second, .val (.long x4), .second, .val (.long x5), .second, .val (.int c0), .val (.int c1), .val (.int d0), .val (.int d1), .val (.ref a5), .unset, .unset, .unset, .unset, .unset, .unset, .unset] [(.int c0), (.int (0 : Int32)), (.ref a5)])) (fun _ k => st5 _ (XS.astore X5.here hx rfl (hb hby at_37) rfl rfl (l' := #[.val (.int x0), .val (.int x1), .val (.long x2), .second, .val (.long x3), .second, .val (.long x4), .second, .val (.long x5), .second, .val (.int c0), .val (.int c1), .val (.int d0), .val (.int d1), .val (.ref a5), .unset, .unset, .unset, .unset, .unset, .unset, .unset]) rfl (XS.aload X5.here hx rfl (hb hby at_39) rfl rfl (XS.iconst X5.here hx rfl (hb hby at_41) (XS.iload X5.here hx rfl (hb hby at_42) rfl k))))) ?_
  obtain ⟨T11, h11, X11, e11, W11, B11, st11⟩ := wrC X5 hx hZ e5 B5 (by decide) hc0.1 (g := (mkF m 44 #[.val (.int x0), .val (.int x1), .val (.long x2), .second, .val (.long x3), .second, .val (.long x4), .second, .val (.long x5), .second, .val (.int c0), .val (.int c1), .val (.int d0), .val (.int d1), .val (.ref a5), .unset, .unset, .unset, .unset, .unset, .unset, .unset] [(.int c0), (.int (0 : Int32)), (.ref a5)])) rfl rfl (hb hby at_44)
  have N11 := Fr.snoc X11 N4 G5
  have C12 := C6.wr W11 G5
  have C13 := J5.wr W11
  have Z14 : n0 ≤ h11.size := by rw [W11.size]; exact Z7
  have Z15 : 0 ≤ h11.size := by rw [W11.size]; exact Z8
  have RR17 := RR10.trans (CHr.wr W11 (Safe.exa hZ.alike J5 (by decide) (by decide)) RR10.1)
  have B11 : Arf Z h11 a5 .char Value.int 2 (Upd (fun _ => (0 : Int32)) 0 c0) := B11
  refine Goes.on (T' := T11) (g' := (mkF m 50 #[.val (.int x0), .val (.int x1), .val (.long x2), .second, .val (.long x3), .second, .val (.long x4), .second, .val (.long x5), .second, .val (.int c0), .val (.int c1), .val (.int d0), .val (.int d1), .val (.ref a5), .unset, .unset, .unset, .unset, .unset, .unset, .unset] [(.int c1), (.int (1 : Int32)), (.ref a5)])) (fun _ k => st11 _ (XS.aload X11.here hx rfl (hb hby at_45) rfl rfl (XS.iconst X11.here hx rfl (hb hby at_47) (XS.iload X11.here hx rfl (hb hby at_48) rfl k)))) ?_
  obtain ⟨T18, h18, X18, e18, W18, B18, st18⟩ := wrC X11 hx hZ e11 B11 (by decide) hc1.1.1 (g := (mkF m 50 #[.val (.int x0), .val (.int x1), .val (.long x2), .second, .val (.long x3), .second, .val (.long x4), .second, .val (.long x5), .second, .val (.int c0), .val (.int c1), .val (.int d0), .val (.int d1), .val (.ref a5), .unset, .unset, .unset, .unset, .unset, .unset, .unset] [(.int c1), (.int (1 : Int32)), (.ref a5)])) rfl rfl (hb hby at_50)
  have N18 := Fr.snoc X18 N11 G5
  have C19 := C12.wr W18 G5
  have C20 := C13.wr W18
  have Z21 : n0 ≤ h18.size := by rw [W18.size]; exact Z14
  have Z22 : 0 ≤ h18.size := by rw [W18.size]; exact Z15
  have RR24 := RR17.trans (CHr.wr W18 (Safe.exa hZ.alike C13 (by decide) (by decide)) RR17.1)
  have B18 : Arf Z h18 a5 .char Value.int 2 (Upd (Upd (fun _ => (0 : Int32)) 0 c0) 1 c1) := B18
  refine Goes.on (T' := T18) (g' := (mkF m 52 #[.val (.int x0), .val (.int x1), .val (.long x2), .second, .val (.long x3), .second, .val (.long x4), .second, .val (.long x5), .second, .val (.int c0), .val (.int c1), .val (.int d0), .val (.int d1), .val (.ref a5), .unset, .unset, .unset, .unset, .unset, .unset, .unset] [(.int (2 : Int32))])) (fun _ k => st18 _ (XS.iconst X18.here hx rfl (hb hby at_51) k)) ?_
  obtain ⟨T25, h25, cA25, X25, e25, E25, A25, J25, st25⟩ := newPE X18 hx hZ (own_w hw 7 rfl) e18 (g := (mkF m 52 #[.val (.int x0), .val (.int x1), .val (.long x2), .second, .val (.long x3), .second, .val (.long x4), .second, .val (.long x5), .second, .val (.int c0), .val (.int c1), .val (.int d0), .val (.int d1), .val (.ref a5), .unset, .unset, .unset, .unset, .unset, .unset, .unset] [(.int (2 : Int32))])) rfl (hb hby at_52) rfl (by decide) (cap := 2) (by decide) (by decide) (by decide) (by decide) (ad := "[C") (by decide)
  obtain ⟨a25, g25⟩ : ∃ z, z = h18.size := ⟨_, rfl⟩
  rw [← g25] at A25 J25 st25
  have C26 := C19.ext E25
  have C28 := B18.ext E25
  have ne29 : a5 ≠ a25 := Nat.ne_of_lt (Nat.lt_of_lt_of_le (C20).lt (Nat.le_of_eq g25.symm))
  have Z30 : n0 ≤ h25.size := Nat.le_trans Z21 E25.1
  have Z31 : 0 ≤ h25.size := Nat.le_trans Z22 E25.1
  have RR33 := RR24.trans (CHr.ext E25 RR24.1)
  have B25 : Arf Z h25 a25 .char Value.int 2 (fun _ => (0 : Int32)) := Arf.new A25 rfl
  have G25 : n0 ≤ a25 := Nat.le_trans Z21 (Nat.le_of_eq g25.symm)
  refine Goes.on (T' := T25) (g' := (mkF m 61 #[.val (.int x0), .val (.int x1), .val (.long x2), .second, .val (.long x3), .second, .val (.long x4), .second, .val (.long x5), .second, .val (.int c0), .val (.int c1), .val (.int d0), .val (.int d1), .val (.ref a5), .val (.ref a25), .unset, .unset, .unset, .unset, .unset, .unset] [(.int d0), (.int (0 : Int32)), (.ref a25)])) (fun _ k => st25 _ (XS.astore X25.here hx rfl (hb hby at_54) rfl rfl (l' := #[.val (.int x0), .val (.int x1), .val (.long x2), .second, .val (.long x3), .second, .val (.long x4), .second, .val (.long x5), .second, .val (.int c0), .val (.int c1), .val (.int d0), .val (.int d1), .val (.ref a5), .val (.ref a25), .unset, .unset, .unset, .unset, .unset, .unset]) rfl (XS.aload X25.here hx rfl (hb hby at_56) rfl rfl (XS.iconst X25.here hx rfl (hb hby at_58) (XS.iload X25.here hx rfl (hb hby at_59) rfl k))))) ?_
  obtain ⟨T34, h34, X34, e34, W34, B34, st34⟩ := wrC X25 hx hZ e25 B25 (by decide) hd0.1 (g := (mkF m 61 #[.val (.int x0), .val (.int x1), .val (.long x2), .second, .val (.long x3), .second, .val (.long x4), .second, .val (.long x5), .second, .val (.int c0), .val (.int c1), .val (.int d0), .val (.int d1), .val (.ref a5), .val (.ref a25), .unset, .unset, .unset, .unset, .unset, .unset] [(.int d0), (.int (0 : Int32)), (.ref a25)])) rfl rfl (hb hby at_61)
  have N34 := Fr.snoc X34 N18 G25
  have C35 := C26.wr W34 G25
  have C37 := C28.other W34 ne29
  have C38 := J25.wr W34
  have Z39 : n0 ≤ h34.size := by rw [W34.size]; exact Z30
  have Z40 : 0 ≤ h34.size := by rw [W34.size]; exact Z31
  have RR42 := RR33.trans (CHr.wr W34 (Safe.exa hZ.alike J25 (by decide) (by decide)) RR33.1)
  have B34 : Arf Z h34 a25 .char Value.int 2 (Upd (fun _ => (0 : Int32)) 0 d0) := B34
  refine Goes.on (T' := T34) (g' := (mkF m 67 #[.val (.int x0), .val (.int x1), .val (.long x2), .second, .val (.long x3), .second, .val (.long x4), .second, .val (.long x5), .second, .val (.int c0), .val (.int c1), .val (.int d0), .val (.int d1), .val (.ref a5), .val (.ref a25), .unset, .unset, .unset, .unset, .unset, .unset] [(.int d1), (.int (1 : Int32)), (.ref a25)])) (fun _ k => st34 _ (XS.aload X34.here hx rfl (hb hby at_62) rfl rfl (XS.iconst X34.here hx rfl (hb hby at_64) (XS.iload X34.here hx rfl (hb hby at_65) rfl k)))) ?_
  obtain ⟨T43, h43, X43, e43, W43, B43, st43⟩ := wrC X34 hx hZ e34 B34 (by decide) hd1.1.1 (g := (mkF m 67 #[.val (.int x0), .val (.int x1), .val (.long x2), .second, .val (.long x3), .second, .val (.long x4), .second, .val (.long x5), .second, .val (.int c0), .val (.int c1), .val (.int d0), .val (.int d1), .val (.ref a5), .val (.ref a25), .unset, .unset, .unset, .unset, .unset, .unset] [(.int d1), (.int (1 : Int32)), (.ref a25)])) rfl rfl (hb hby at_67)
  have N43 := Fr.snoc X43 N34 G25
  have C44 := C35.wr W43 G25
  have C46 := C37.other W43 ne29
  have C47 := C38.wr W43
  have Z48 : n0 ≤ h43.size := by rw [W43.size]; exact Z39
  have Z49 : 0 ≤ h43.size := by rw [W43.size]; exact Z40
  have RR51 := RR42.trans (CHr.wr W43 (Safe.exa hZ.alike C38 (by decide) (by decide)) RR42.1)
  have B43 : Arf Z h43 a25 .char Value.int 2 (Upd (Upd (fun _ => (0 : Int32)) 0 d0) 1 d1) := B43
  refine Goes.on (T' := T43) (g' := (mkF m 68 #[.val (.int x0), .val (.int x1), .val (.long x2), .second, .val (.long x3), .second, .val (.long x4), .second, .val (.long x5), .second, .val (.int c0), .val (.int c1), .val (.int d0), .val (.int d1), .val (.ref a5), .val (.ref a25), .unset, .unset, .unset, .unset, .unset, .unset] [])) (fun _ k => st43 _ k) ?_
  obtain ⟨T52, h52, X52, e52, E52, A52, D52, U52, st52⟩ := newO X43 hx hZ hown (own_w hw 8 rfl) (own_w hw 9 rfl) (own_w hw 10 rfl) e43 (g := (mkF m 68 #[.val (.int x0), .val (.int x1), .val (.long x2), .second, .val (.long x3), .second, .val (.long x4), .second, .val (.long x5), .second, .val (.int c0), .val (.int c1), .val (.int d0), .val (.int d1), .val (.ref a5), .val (.ref a25), .unset, .unset, .unset, .unset, .unset, .unset] [])) rfl (hb hby at_68) (by decide) (by decide)
  obtain ⟨a52, g52⟩ : ∃ z, z = h43.size := ⟨_, rfl⟩
  rw [← g52] at A52 D52 U52 st52
  have C53 := C44.ext E52
  have C55 := C46.ext E52
  have C56 := C47.ext E52
  have C57 := B43.ext E52
  have ne59 : a25 ≠ a52 := Nat.ne_of_lt (Nat.lt_of_lt_of_le (C47).lt (Nat.le_of_eq g52.symm))
  have Z60 : n0 ≤ h52.size := Nat.le_trans Z48 E52.1
  have Z61 : 0 ≤ h52.size := Nat.le_trans Z49 E52.1
  have RR63 := RR51.trans (CHr.ext E52 RR51.1)
  have F64 : Fld Z h52 a52 "com/example/narada/narada/ObjectAddress" "endpoint" "Ljava/lang/String;" .null := D52 (Or.inr (own_w hw 105 rfl)) (ty := (.object "java/lang/String")) (by decide)
  have F65 : Fld Z h52 a52 "com/example/narada/narada/ObjectAddress" "object" "J" (.long (0 : Int64)) := D52 (Or.inr (own_w hw 107 rfl)) (ty := .long) (by decide)
  have G52 : n0 ≤ a52 := Nat.le_trans Z48 (Nat.le_of_eq g52.symm)
  refine Goes.on (T' := T52) (g' := (mkF m 72 #[.val (.int x0), .val (.int x1), .val (.long x2), .second, .val (.long x3), .second, .val (.long x4), .second, .val (.long x5), .second, .val (.int c0), .val (.int c1), .val (.int d0), .val (.int d1), .val (.ref a5), .val (.ref a25), .unset, .unset, .unset, .unset, .unset, .unset] [(.ref a52), (.ref a52)])) (fun _ k => st52 _ (XS.dup X52.here hx rfl (hb hby at_71) rfl rfl k)) ?_
  obtain ⟨T66, h66, X66, e66, E66, A66, D66, U66, st66⟩ := newO X52 hx hZ hown (own_w hw 11 rfl) (own_w hw 12 rfl) (own_w hw 13 rfl) e52 (g := (mkF m 72 #[.val (.int x0), .val (.int x1), .val (.long x2), .second, .val (.long x3), .second, .val (.long x4), .second, .val (.long x5), .second, .val (.int c0), .val (.int c1), .val (.int d0), .val (.int d1), .val (.ref a5), .val (.ref a25), .unset, .unset, .unset, .unset, .unset, .unset] [(.ref a52), (.ref a52)])) rfl (hb hby at_72) (by decide) (by decide)
  obtain ⟨a66, g66⟩ : ∃ z, z = h52.size := ⟨_, rfl⟩
  rw [← g66] at A66 D66 U66 st66
  have C67 := C53.ext E66
  have C69 := C55.ext E66
  have C71 := C57.ext E66
  have C72 := A52.ext E66
  have C74 := F64.ext E66
  have C75 := F65.ext E66
  have ne77 : a25 ≠ a66 := Nat.ne_of_lt (Nat.lt_of_lt_of_le (C56).lt (Nat.le_of_eq g66.symm))
  have ne78 : a52 ≠ a66 := Nat.ne_of_lt (Nat.lt_of_lt_of_le (A52).lt (Nat.le_of_eq g66.symm))
  have Z79 : n0 ≤ h66.size := Nat.le_trans Z60 E66.1
  have Z80 : 0 ≤ h66.size := Nat.le_trans Z61 E66.1
  have RR82 := RR63.trans (CHr.ext E66 RR63.1)
  have sf66 := Safe.ext E66 RR63.1 (Safe.new (x := a66) (Nat.le_of_eq g66.symm))
  have F83 : Fld Z h66 a66 "java/lang/String" "coder" "B" (.int (0 : Int32)) := D66 (Or.inr (own_w hw 37 rfl)) (ty := .byte) (by decide)
  have F84 : Fld Z h66 a66 "java/lang/String" "value" "[B" .null := D66 (Or.inr (own_w hw 39 rfl)) (ty := (.array .byte)) (by decide)
  have G66 : n0 ≤ a66 := Nat.le_trans Z60 (Nat.le_of_eq g66.symm)
  refine Goes.on (T' := T66) (g' := (mkF m 78 #[.val (.int x0), .val (.int x1), .val (.long x2), .second, .val (.long x3), .second, .val (.long x4), .second, .val (.long x5), .second, .val (.int c0), .val (.int c1), .val (.int d0), .val (.int d1), .val (.ref a5), .val (.ref a25), .unset, .unset, .unset, .unset, .unset, .unset] [(.ref a5), (.ref a66), (.ref a66), (.ref a52), (.ref a52)])) (fun _ k => st66 _ (XS.dup X66.here hx rfl (hb hby at_75) rfl rfl (XS.aload X66.here hx rfl (hb hby at_76) rfl rfl k))) ?_
  obtain ⟨kC85, AC85⟩ := Arf.arv' C69 (by decide) (fun i hi => match i, hi with | 0, _ => own_fitN hc0.1 | 1, _ => own_fitN hc1.1.1) .null
  refine Goes.callCB X66 hx hZ (W := 3) rfl hown (own_w hw 14 rfl) (own_w hw 15 rfl) (own_w hw 16 rfl) (by decide) e66 (StrChars.Road.backV (W := 3) hZ (own_hnew hw) (kI := 4) (own_w hw 12 rfl) (cs := [c0, c1]) (n := 2) (N := Int32.ofNat 2) (bs := [c0, c1].map (fun c => c.toInt8.toInt32)) G66 Z79 A66 F84 F83 AC85 (Sta.ext C67.2 SC) hcs rfl rfl (by decide) (by decide) (own_two hc0.2.1 hc1.1.2.1) rfl (by decide) (by decide)) (by decide) (by decide) rfl (by rw [hml]; rfl) (a := a66) (argsL := [(.ref a5)]) (rest := [(.ref a66), (.ref a52), (.ref a52)]) rfl (lenOf pd_11 rfl) rfl (by show 2 * 0 + _ ≤ _; exact Nat.le_of_eq rfl) (hb hby at_78) ?_
  intro v85 T85 L85 X85 hQ85
  obtain ⟨rfl, N85q, K85, A85, C85, t85, kb85, G85, M85, ne85, V85, B85⟩ := hQ85
  have N85 := Fr.app N43 N85q
  show Goes p e below _ T85 (mkF m 81 #[.val (.int x0), .val (.int x1), .val (.long x2), .second, .val (.long x3), .second, .val (.long x4), .second, .val (.long x5), .second, .val (.int c0), .val (.int c1), .val (.int d0), .val (.int d1), .val (.ref a5), .val (.ref a25), .unset, .unset, .unset, .unset, .unset, .unset] [(.ref a66), (.ref a52), (.ref a52)])
  have ne88 : a52 ≠ t85 := Nat.ne_of_lt (Nat.lt_of_lt_of_le (C72).lt M85)
  have C89 := C67.keep K85 (allS G66 all0)
  have C93 := C71.keep K85 (ninS ne77 nin0)
  have C94 := C72.keep K85
  have C95 := C74.keep K85 (ninS ne78 nin0)
  have C96 := C75.keep K85 (ninS ne78 nin0)
  have Z98 : n0 ≤ T85.heap.size := Nat.le_trans Z79 K85.1
  have Z99 : 0 ≤ T85.heap.size := Nat.le_trans Z80 K85.1
  have RR101 := RR82.trans (CHr.keep K85 (allS sf66 all0) RR82.1)
  have Q85 : Str Z T85.heap a66 t85 kb85 (Int32.ofNat 2) (([c0, c1].map (fun c => c.toInt8.toInt32)).map Value.int) := ⟨A85, C85, V85, B85⟩
  refine Goes.on (T' := T85) (g' := (mkF m 82 #[.val (.int x0), .val (.int x1), .val (.long x2), .second, .val (.long x3), .second, .val (.long x4), .second, .val (.long x5), .second, .val (.int c0), .val (.int c1), .val (.int d0), .val (.int d1), .val (.ref a5), .val (.ref a25), .unset, .unset, .unset, .unset, .unset, .unset] [(.long x2), (.ref a66), (.ref a52), (.ref a52)])) (fun _ k => XS.lloadN X85.here hx rfl (hb hby at_81) rfl k) ?_
  refine Goes.callCW X85 hx hZ hS0 Z99 hEL RR101.1 1 rfl hown (own_w hw 40 rfl) (own_w hw 41 rfl) (own_w hw 10 rfl) (own_w hw 42 rfl) (by decide) rfl (rmOa_2 l Z a0 hw a52 a66 x2 T85.heap n0 Z98 C94 G52 C95 C96 hEL C89 cs SC hcs t85 kb85 (c0.toInt8.toInt32) (c1.toInt8.toInt32) Q85 (fun q => q) (fun q => hc1.2 ⟨own_b46 hc0 q.1, own_b46 hc1.1 q.2⟩) (own_b47 hc0) (own_b47 hc1.1) (own_b0 hc0) (own_b0 hc1.1)) (by decide) (by decide) (by decide) (by decide) rfl (by rw [hml]; rfl) (a := a52) (argsL := [(.ref a66), (.long x2)]) (rest := [(.ref a52)]) rfl (lenOf pd_12 rfl) rfl (by show 2 * 0 + _ ≤ _; exact Nat.le_of_eq rfl) (hb hby at_82) ?_
  intro v102 T102 L102 k102 X102 hS102 hk102 hZ102 hown102 R102 hQ102
  obtain ⟨rfl, N102q, K102, A102, B102_endpoint, B102_object⟩ := hQ102
  have N102 := Fr.app N85 N102q
  show Goes p e below _ T102 (mkF m 85 #[.val (.int x0), .val (.int x1), .val (.long x2), .second, .val (.long x3), .second, .val (.long x4), .second, .val (.long x5), .second, .val (.int c0), .val (.int c1), .val (.int d0), .val (.int d1), .val (.ref a5), .val (.ref a25), .unset, .unset, .unset, .unset, .unset, .unset] [(.ref a52)])
  have RR102 := RR101.trans R102
  have C103 := C89.keep K102 (allS G52 all0)
  have C105 := C93.keep K102 (ninS ne59 nin0)
  have C107 := A85.keep K102
  have C108 := Q85.keep K102 (ninS ne78.symm nin0) (ninS ne88.symm nin0)
  have Z109 : n0 ≤ T102.heap.size := Nat.le_trans Z98 K102.1
  refine Goes.on (T' := T102) (g' := (mkF m 87 #[.val (.int x0), .val (.int x1), .val (.long x2), .second, .val (.long x3), .second, .val (.long x4), .second, .val (.long x5), .second, .val (.int c0), .val (.int c1), .val (.int d0), .val (.int d1), .val (.ref a5), .val (.ref a25), .val (.ref a52), .unset, .unset, .unset, .unset, .unset] [])) (fun _ k => XS.astore X102.here hx rfl (hb hby at_85) rfl rfl (l' := #[.val (.int x0), .val (.int x1), .val (.long x2), .second, .val (.long x3), .second, .val (.long x4), .second, .val (.long x5), .second, .val (.int c0), .val (.int c1), .val (.int d0), .val (.int d1), .val (.ref a5), .val (.ref a25), .val (.ref a52), .unset, .unset, .unset, .unset, .unset]) rfl k) ?_
  obtain ⟨T112, h112, X112, e112, E112, A112, D112, U112, st112⟩ := newO X102 hx hZ102 hown102 (own_w hw 8 rfl) (own_w hw 9 rfl) (own_w hw 10 rfl) rfl (g := (mkF m 87 #[.val (.int x0), .val (.int x1), .val (.long x2), .second, .val (.long x3), .second, .val (.long x4), .second, .val (.long x5), .second, .val (.int c0), .val (.int c1), .val (.int d0), .val (.int d1), .val (.ref a5), .val (.ref a25), .val (.ref a52), .unset, .unset, .unset, .unset, .unset] [])) rfl (hb hby at_87) (by decide) (by decide)
  obtain ⟨a112, g112⟩ : ∃ z, z = T102.heap.size := ⟨_, rfl⟩
  rw [← g112] at A112 D112 U112 st112
  have C113 := C103.ext E112
  have C115 := C105.ext E112
  have C116 := A102.ext E112
  have C117 := C107.ext E112
  have C118 := C108.ext E112
  have C119 := B102_endpoint.ext E112
  have C120 := B102_object.ext E112
  have ne121 : t85 ≠ a112 := Nat.ne_of_lt (Nat.lt_of_lt_of_le (C108.2.2.2.lt) (Nat.le_of_eq g112.symm))
  have ne123 : a52 ≠ a112 := Nat.ne_of_lt (Nat.lt_of_lt_of_le (A102).lt (Nat.le_of_eq g112.symm))
  have ne124 : a66 ≠ a112 := Nat.ne_of_lt (Nat.lt_of_lt_of_le (C107).lt (Nat.le_of_eq g112.symm))
  have Z125 : n0 ≤ h112.size := Nat.le_trans Z109 E112.1
  have Z126 : k102 ≤ h112.size := Nat.le_trans hk102 E112.1
  have RR128 := RR102.trans (CHr.ext E112 RR102.1)
  have F129 : Fld Z h112 a112 "com/example/narada/narada/ObjectAddress" "endpoint" "Ljava/lang/String;" .null := D112 (Or.inr (own_w hw 105 rfl)) (ty := (.object "java/lang/String")) (by decide)
  have F130 : Fld Z h112 a112 "com/example/narada/narada/ObjectAddress" "object" "J" (.long (0 : Int64)) := D112 (Or.inr (own_w hw 107 rfl)) (ty := .long) (by decide)
  have G112 : n0 ≤ a112 := Nat.le_trans Z109 (Nat.le_of_eq g112.symm)
  refine Goes.on (T' := T112) (g' := (mkF m 91 #[.val (.int x0), .val (.int x1), .val (.long x2), .second, .val (.long x3), .second, .val (.long x4), .second, .val (.long x5), .second, .val (.int c0), .val (.int c1), .val (.int d0), .val (.int d1), .val (.ref a5), .val (.ref a25), .val (.ref a52), .unset, .unset, .unset, .unset, .unset] [(.ref a112), (.ref a112)])) (fun _ k => st112 _ (XS.dup X112.here hx rfl (hb hby at_90) rfl rfl k)) ?_
  obtain ⟨T131, h131, X131, e131, E131, A131, D131, U131, st131⟩ := newO X112 hx hZ102 hown102 (own_w hw 11 rfl) (own_w hw 12 rfl) (own_w hw 13 rfl) e112 (g := (mkF m 91 #[.val (.int x0), .val (.int x1), .val (.long x2), .second, .val (.long x3), .second, .val (.long x4), .second, .val (.long x5), .second, .val (.int c0), .val (.int c1), .val (.int d0), .val (.int d1), .val (.ref a5), .val (.ref a25), .val (.ref a52), .unset, .unset, .unset, .unset, .unset] [(.ref a112), (.ref a112)])) rfl (hb hby at_91) (by decide) (by decide)
  obtain ⟨a131, g131⟩ : ∃ z, z = h112.size := ⟨_, rfl⟩
  rw [← g131] at A131 D131 U131 st131
  have C132 := C113.ext E131
  have C134 := C115.ext E131
  have C135 := C116.ext E131
  have C136 := C117.ext E131
  have C137 := C118.ext E131
  have C138 := C119.ext E131
  have C139 := C120.ext E131
  have C140 := A112.ext E131
  have C142 := F129.ext E131
  have C143 := F130.ext E131
  have ne144 : t85 ≠ a131 := Nat.ne_of_lt (Nat.lt_of_lt_of_le (C118.2.2.2.lt) (Nat.le_of_eq g131.symm))
  have ne146 : a52 ≠ a131 := Nat.ne_of_lt (Nat.lt_of_lt_of_le (C116).lt (Nat.le_of_eq g131.symm))
  have ne147 : a66 ≠ a131 := Nat.ne_of_lt (Nat.lt_of_lt_of_le (C117).lt (Nat.le_of_eq g131.symm))
  have ne148 : a112 ≠ a131 := Nat.ne_of_lt (Nat.lt_of_lt_of_le (A112).lt (Nat.le_of_eq g131.symm))
  have Z149 : n0 ≤ h131.size := Nat.le_trans Z125 E131.1
  have Z150 : k102 ≤ h131.size := Nat.le_trans Z126 E131.1
  have RR152 := RR128.trans (CHr.ext E131 RR128.1)
  have sf131 := Safe.ext E131 RR128.1 (Safe.new (x := a131) (Nat.le_of_eq g131.symm))
  have F153 : Fld Z h131 a131 "java/lang/String" "coder" "B" (.int (0 : Int32)) := D131 (Or.inr (own_w hw 37 rfl)) (ty := .byte) (by decide)
  have F154 : Fld Z h131 a131 "java/lang/String" "value" "[B" .null := D131 (Or.inr (own_w hw 39 rfl)) (ty := (.array .byte)) (by decide)
  have G131 : n0 ≤ a131 := Nat.le_trans Z125 (Nat.le_of_eq g131.symm)
  refine Goes.on (T' := T131) (g' := (mkF m 97 #[.val (.int x0), .val (.int x1), .val (.long x2), .second, .val (.long x3), .second, .val (.long x4), .second, .val (.long x5), .second, .val (.int c0), .val (.int c1), .val (.int d0), .val (.int d1), .val (.ref a5), .val (.ref a25), .val (.ref a52), .unset, .unset, .unset, .unset, .unset] [(.ref a25), (.ref a131), (.ref a131), (.ref a112), (.ref a112)])) (fun _ k => st131 _ (XS.dup X131.here hx rfl (hb hby at_94) rfl rfl (XS.aload X131.here hx rfl (hb hby at_95) rfl rfl k))) ?_
  obtain ⟨kC155, AC155⟩ := Arf.arv' C134 (by decide) (fun i hi => match i, hi with | 0, _ => own_fitN hd0.1 | 1, _ => own_fitN hd1.1.1) .null
  refine Goes.callCB X131 hx hZ102 (W := 3) rfl hown102 (own_w hw 14 rfl) (own_w hw 15 rfl) (own_w hw 16 rfl) (by decide) e131 (StrChars.Road.backV (W := 3) hZ102 (own_hnew hw) (kI := 4) (own_w hw 12 rfl) (cs := [d0, d1]) (n := 2) (N := Int32.ofNat 2) (bs := [d0, d1].map (fun c => c.toInt8.toInt32)) G131 Z149 A131 F154 F153 AC155 (Sta.ext C132.2 SC) hcs rfl rfl (by decide) (by decide) (own_two hd0.2.1 hd1.1.2.1) rfl (by decide) (by decide)) (by decide) (by decide) rfl (by rw [hml]; rfl) (a := a131) (argsL := [(.ref a25)]) (rest := [(.ref a131), (.ref a112), (.ref a112)]) rfl (lenOf pd_11 rfl) rfl (by show 2 * 0 + _ ≤ _; exact Nat.le_of_eq rfl) (hb hby at_97) ?_
  intro v155 T155 L155 X155 hQ155
  obtain ⟨rfl, N155q, K155, A155, C155, t155, kb155, G155, M155, ne155, V155, B155⟩ := hQ155
  have N155 := Fr.app N102 N155q
  show Goes p e below _ T155 (mkF m 100 #[.val (.int x0), .val (.int x1), .val (.long x2), .second, .val (.long x3), .second, .val (.long x4), .second, .val (.long x5), .second, .val (.int c0), .val (.int c1), .val (.int d0), .val (.int d1), .val (.ref a5), .val (.ref a25), .val (.ref a52), .unset, .unset, .unset, .unset, .unset] [(.ref a131), (.ref a112), (.ref a112)])
  have ne159 : a112 ≠ t155 := Nat.ne_of_lt (Nat.lt_of_lt_of_le (C140).lt M155)
  have C160 := C132.keep K155 (allS G131 all0)
  have C163 := C135.keep K155
  have C164 := C136.keep K155
  have C165 := C137.keep K155 (ninS ne147 nin0) (ninS ne144 nin0)
  have C166 := C138.keep K155 (ninS ne146 nin0)
  have C167 := C139.keep K155 (ninS ne146 nin0)
  have C168 := C140.keep K155
  have C169 := C142.keep K155 (ninS ne148 nin0)
  have C170 := C143.keep K155 (ninS ne148 nin0)
  have Z172 : n0 ≤ T155.heap.size := Nat.le_trans Z149 K155.1
  have Z173 : k102 ≤ T155.heap.size := Nat.le_trans Z150 K155.1
  have RR175 := RR152.trans (CHr.keep K155 (allS sf131 all0) RR152.1)
  have Q155 : Str Z T155.heap a131 t155 kb155 (Int32.ofNat 2) (([d0, d1].map (fun c => c.toInt8.toInt32)).map Value.int) := ⟨A155, C155, V155, B155⟩
  refine Goes.on (T' := T155) (g' := (mkF m 102 #[.val (.int x0), .val (.int x1), .val (.long x2), .second, .val (.long x3), .second, .val (.long x4), .second, .val (.long x5), .second, .val (.int c0), .val (.int c1), .val (.int d0), .val (.int d1), .val (.ref a5), .val (.ref a25), .val (.ref a52), .unset, .unset, .unset, .unset, .unset] [(.long x3), (.ref a131), (.ref a112), (.ref a112)])) (fun _ k => XS.lload X155.here hx rfl (hb hby at_100) rfl k) ?_
  refine Goes.callCW X155 hx hZ102 hS102 Z173 hEL RR175.1 1 rfl hown102 (own_w hw 40 rfl) (own_w hw 41 rfl) (own_w hw 10 rfl) (own_w hw 42 rfl) (by decide) rfl (rmOa_2 l Z a0 hw a112 a131 x3 T155.heap n0 Z172 C168 G112 C169 C170 hEL C160 cs SC hcs t155 kb155 (d0.toInt8.toInt32) (d1.toInt8.toInt32) Q155 (fun q => q) (fun q => hd1.2 ⟨own_b46 hd0 q.1, own_b46 hd1.1 q.2⟩) (own_b47 hd0) (own_b47 hd1.1) (own_b0 hd0) (own_b0 hd1.1)) (by decide) (by decide) (by decide) (by decide) rfl (by rw [hml]; rfl) (a := a112) (argsL := [(.ref a131), (.long x3)]) (rest := [(.ref a112)]) rfl (lenOf pd_12 rfl) rfl (by show 2 * 0 + _ ≤ _; exact Nat.le_of_eq rfl) (hb hby at_102) ?_
  intro v176 T176 L176 k176 X176 hS176 hk176 hZ176 hown176 R176 hQ176
  obtain ⟨rfl, N176q, K176, A176, B176_endpoint, B176_object⟩ := hQ176
  have N176 := Fr.app N155 N176q
  show Goes p e below _ T176 (mkF m 105 #[.val (.int x0), .val (.int x1), .val (.long x2), .second, .val (.long x3), .second, .val (.long x4), .second, .val (.long x5), .second, .val (.int c0), .val (.int c1), .val (.int d0), .val (.int d1), .val (.ref a5), .val (.ref a25), .val (.ref a52), .unset, .unset, .unset, .unset, .unset] [(.ref a112)])
  have RR176 := RR175.trans R176
  have C177 := C160.keep K176 (allS G112 all0)
  have C178 := C163.keep K176
  have C179 := C164.keep K176
  have C180 := C165.keep K176 (ninS ne124 nin0) (ninS ne121 nin0)
  have C181 := C166.keep K176 (ninS ne123 nin0)
  have C182 := C167.keep K176 (ninS ne123 nin0)
  have C184 := A155.keep K176
  have C185 := Q155.keep K176 (ninS ne148.symm nin0) (ninS ne159.symm nin0)
  have Z186 : n0 ≤ T176.heap.size := Nat.le_trans Z172 K176.1
  refine Goes.on (T' := T176) (g' := (mkF m 107 #[.val (.int x0), .val (.int x1), .val (.long x2), .second, .val (.long x3), .second, .val (.long x4), .second, .val (.long x5), .second, .val (.int c0), .val (.int c1), .val (.int d0), .val (.int d1), .val (.ref a5), .val (.ref a25), .val (.ref a52), .val (.ref a112), .unset, .unset, .unset, .unset] [])) (fun _ k => XS.astore X176.here hx rfl (hb hby at_105) rfl rfl (l' := #[.val (.int x0), .val (.int x1), .val (.long x2), .second, .val (.long x3), .second, .val (.long x4), .second, .val (.long x5), .second, .val (.int c0), .val (.int c1), .val (.int d0), .val (.int d1), .val (.ref a5), .val (.ref a25), .val (.ref a52), .val (.ref a112), .unset, .unset, .unset, .unset]) rfl k) ?_
  obtain ⟨T189, h189, X189, e189, E189, A189, D189, U189, st189⟩ := newO X176 hx hZ176 hown176 (own_w hw 108 rfl) (own_w hw 109 rfl) (own_w hw 110 rfl) rfl (g := (mkF m 107 #[.val (.int x0), .val (.int x1), .val (.long x2), .second, .val (.long x3), .second, .val (.long x4), .second, .val (.long x5), .second, .val (.int c0), .val (.int c1), .val (.int d0), .val (.int d1), .val (.ref a5), .val (.ref a25), .val (.ref a52), .val (.ref a112), .unset, .unset, .unset, .unset] [])) rfl (hb hby at_107) (by decide) (by decide)
  obtain ⟨a189, g189⟩ : ∃ z, z = T176.heap.size := ⟨_, rfl⟩
  rw [← g189] at A189 D189 U189 st189
  have C190 := C177.ext E189
  have C191 := C178.ext E189
  have C192 := C179.ext E189
  have C193 := C180.ext E189
  have C194 := C181.ext E189
  have C195 := C182.ext E189
  have C196 := A176.ext E189
  have C197 := C184.ext E189
  have C198 := C185.ext E189
  have C199 := B176_endpoint.ext E189
  have C200 := B176_object.ext E189
  have ne201 : t85 ≠ a189 := Nat.ne_of_lt (Nat.lt_of_lt_of_le (C180.2.2.2.lt) (Nat.le_of_eq g189.symm))
  have ne202 : t155 ≠ a189 := Nat.ne_of_lt (Nat.lt_of_lt_of_le (C185.2.2.2.lt) (Nat.le_of_eq g189.symm))
  have ne203 : a52 ≠ a189 := Nat.ne_of_lt (Nat.lt_of_lt_of_le (C178).lt (Nat.le_of_eq g189.symm))
  have ne204 : a66 ≠ a189 := Nat.ne_of_lt (Nat.lt_of_lt_of_le (C179).lt (Nat.le_of_eq g189.symm))
  have ne205 : a112 ≠ a189 := Nat.ne_of_lt (Nat.lt_of_lt_of_le (A176).lt (Nat.le_of_eq g189.symm))
  have ne206 : a131 ≠ a189 := Nat.ne_of_lt (Nat.lt_of_lt_of_le (C184).lt (Nat.le_of_eq g189.symm))
  have Z207 : n0 ≤ h189.size := Nat.le_trans Z186 E189.1
  have Z208 : k176 ≤ h189.size := Nat.le_trans hk176 E189.1
  have RR210 := RR176.trans (CHr.ext E189 RR176.1)
  have F211 : Fld Z h189 a189 "com/example/narada/narada/Transfer" "address" "Lcom/example/narada/narada/ObjectAddress;" .null := D189 (Or.inr (own_w hw 116 rfl)) (ty := (.object "com/example/narada/narada/ObjectAddress")) (by decide)
  have F212 : Fld Z h189 a189 "com/example/narada/narada/Transfer" "ticket" "J" (.long (0 : Int64)) := D189 (Or.inr (own_w hw 118 rfl)) (ty := .long) (by decide)
  have G189 : n0 ≤ a189 := Nat.le_trans Z186 (Nat.le_of_eq g189.symm)
  refine Goes.on (T' := T189) (g' := (mkF m 115 #[.val (.int x0), .val (.int x1), .val (.long x2), .second, .val (.long x3), .second, .val (.long x4), .second, .val (.long x5), .second, .val (.int c0), .val (.int c1), .val (.int d0), .val (.int d1), .val (.ref a5), .val (.ref a25), .val (.ref a52), .val (.ref a112), .unset, .unset, .unset, .unset] [(.long x4), (.ref a52), (.ref a189), (.ref a189)])) (fun _ k => st189 _ (XS.dup X189.here hx rfl (hb hby at_110) rfl rfl (XS.aload X189.here hx rfl (hb hby at_111) rfl rfl (XS.lload X189.here hx rfl (hb hby at_113) rfl k)))) ?_
  refine Goes.callC X189 hx hZ176 1 rfl hown176 (own_w hw 111 rfl) (own_w hw 112 rfl) (own_w hw 110 rfl) (own_w hw 113 rfl) (by decide) e189 (rmTr l Z a0 hw a189 a52 x4 h189 n0 Z207 A189 G189 F211 F212) (by decide) (by decide) (by decide) (by decide) rfl (by rw [hml]; rfl) (a := a189) (argsL := [(.ref a52), (.long x4)]) (rest := [(.ref a189)]) rfl (lenOf pd_13 rfl) rfl (by show 2 * 0 + _ ≤ _; exact Nat.le_of_eq rfl) (hb hby at_115) ?_
  intro v213 T213 L213 X213 hQ213
  obtain ⟨rfl, N213q, K213, A213, B213_address, B213_ticket⟩ := hQ213
  have N213 := Fr.app N176 N213q
  show Goes p e below _ T213 (mkF m 118 #[.val (.int x0), .val (.int x1), .val (.long x2), .second, .val (.long x3), .second, .val (.long x4), .second, .val (.long x5), .second, .val (.int c0), .val (.int c1), .val (.int d0), .val (.int d1), .val (.ref a5), .val (.ref a25), .val (.ref a52), .val (.ref a112), .unset, .unset, .unset, .unset] [(.ref a189)])
  have C214 := C190.keep K213 (allS G189 all0)
  have C215 := C191.keep K213
  have C216 := C192.keep K213
  have C217 := C193.keep K213 (ninS ne204 nin0) (ninS ne201 nin0)
  have C218 := C194.keep K213 (ninS ne203 nin0)
  have C219 := C195.keep K213 (ninS ne203 nin0)
  have C220 := C196.keep K213
  have C221 := C197.keep K213
  have C222 := C198.keep K213 (ninS ne206 nin0) (ninS ne202 nin0)
  have C223 := C199.keep K213 (ninS ne205 nin0)
  have C224 := C200.keep K213 (ninS ne205 nin0)
  have Z226 : n0 ≤ T213.heap.size := Nat.le_trans Z207 K213.1
  have Z227 : k176 ≤ T213.heap.size := Nat.le_trans Z208 K213.1
  have RR229 := RR210.trans (CHr.keep K213 (allS (Safe.exa hZ176.alike A189 (by decide) (by decide)) all0) RR210.1)
  refine Goes.on (T' := T213) (g' := (mkF m 120 #[.val (.int x0), .val (.int x1), .val (.long x2), .second, .val (.long x3), .second, .val (.long x4), .second, .val (.long x5), .second, .val (.int c0), .val (.int c1), .val (.int d0), .val (.int d1), .val (.ref a5), .val (.ref a25), .val (.ref a52), .val (.ref a112), .val (.ref a189), .unset, .unset, .unset] [])) (fun _ k => XS.astore X213.here hx rfl (hb hby at_118) rfl rfl (l' := #[.val (.int x0), .val (.int x1), .val (.long x2), .second, .val (.long x3), .second, .val (.long x4), .second, .val (.long x5), .second, .val (.int c0), .val (.int c1), .val (.int d0), .val (.int d1), .val (.ref a5), .val (.ref a25), .val (.ref a52), .val (.ref a112), .val (.ref a189), .unset, .unset, .unset]) rfl k) ?_
  obtain ⟨T230, h230, X230, e230, E230, A230, D230, U230, st230⟩ := newO X213 hx hZ176 hown176 (own_w hw 108 rfl) (own_w hw 109 rfl) (own_w hw 110 rfl) rfl (g := (mkF m 120 #[.val (.int x0), .val (.int x1), .val (.long x2), .second, .val (.long x3), .second, .val (.long x4), .second, .val (.long x5), .second, .val (.int c0), .val (.int c1), .val (.int d0), .val (.int d1), .val (.ref a5), .val (.ref a25), .val (.ref a52), .val (.ref a112), .val (.ref a189), .unset, .unset, .unset] [])) rfl (hb hby at_120) (by decide) (by decide)
  obtain ⟨a230, g230⟩ : ∃ z, z = T213.heap.size := ⟨_, rfl⟩
  rw [← g230] at A230 D230 U230 st230
  have C231 := C214.ext E230
  have C232 := C215.ext E230
  have C234 := C217.ext E230
  have C235 := C218.ext E230
  have C236 := C219.ext E230
  have C237 := C220.ext E230
  have C239 := C222.ext E230
  have C240 := C223.ext E230
  have C241 := C224.ext E230
  have C242 := A213.ext E230
  have C243 := B213_address.ext E230
  have C244 := B213_ticket.ext E230
  have ne245 : t85 ≠ a230 := Nat.ne_of_lt (Nat.lt_of_lt_of_le (C217.2.2.2.lt) (Nat.le_of_eq g230.symm))
  have ne246 : t155 ≠ a230 := Nat.ne_of_lt (Nat.lt_of_lt_of_le (C222.2.2.2.lt) (Nat.le_of_eq g230.symm))
  have ne247 : a52 ≠ a230 := Nat.ne_of_lt (Nat.lt_of_lt_of_le (C215).lt (Nat.le_of_eq g230.symm))
  have ne248 : a66 ≠ a230 := Nat.ne_of_lt (Nat.lt_of_lt_of_le (C216).lt (Nat.le_of_eq g230.symm))
  have ne249 : a112 ≠ a230 := Nat.ne_of_lt (Nat.lt_of_lt_of_le (C220).lt (Nat.le_of_eq g230.symm))
  have ne250 : a131 ≠ a230 := Nat.ne_of_lt (Nat.lt_of_lt_of_le (C221).lt (Nat.le_of_eq g230.symm))
  have ne251 : a189 ≠ a230 := Nat.ne_of_lt (Nat.lt_of_lt_of_le (A213).lt (Nat.le_of_eq g230.symm))
  have Z252 : n0 ≤ h230.size := Nat.le_trans Z226 E230.1
  have Z253 : k176 ≤ h230.size := Nat.le_trans Z227 E230.1
  have RR255 := RR229.trans (CHr.ext E230 RR229.1)
  have F256 : Fld Z h230 a230 "com/example/narada/narada/Transfer" "address" "Lcom/example/narada/narada/ObjectAddress;" .null := D230 (Or.inr (own_w hw 116 rfl)) (ty := (.object "com/example/narada/narada/ObjectAddress")) (by decide)
  have F257 : Fld Z h230 a230 "com/example/narada/narada/Transfer" "ticket" "J" (.long (0 : Int64)) := D230 (Or.inr (own_w hw 118 rfl)) (ty := .long) (by decide)
  have G230 : n0 ≤ a230 := Nat.le_trans Z226 (Nat.le_of_eq g230.symm)
  refine Goes.on (T' := T230) (g' := (mkF m 128 #[.val (.int x0), .val (.int x1), .val (.long x2), .second, .val (.long x3), .second, .val (.long x4), .second, .val (.long x5), .second, .val (.int c0), .val (.int c1), .val (.int d0), .val (.int d1), .val (.ref a5), .val (.ref a25), .val (.ref a52), .val (.ref a112), .val (.ref a189), .unset, .unset, .unset] [(.long x5), (.ref a112), (.ref a230), (.ref a230)])) (fun _ k => st230 _ (XS.dup X230.here hx rfl (hb hby at_123) rfl rfl (XS.aload X230.here hx rfl (hb hby at_124) rfl rfl (XS.lload X230.here hx rfl (hb hby at_126) rfl k)))) ?_
  refine Goes.callC X230 hx hZ176 1 rfl hown176 (own_w hw 111 rfl) (own_w hw 112 rfl) (own_w hw 110 rfl) (own_w hw 113 rfl) (by decide) e230 (rmTr l Z a0 hw a230 a112 x5 h230 n0 Z252 A230 G230 F256 F257) (by decide) (by decide) (by decide) (by decide) rfl (by rw [hml]; rfl) (a := a230) (argsL := [(.ref a112), (.long x5)]) (rest := [(.ref a230)]) rfl (lenOf pd_13 rfl) rfl (by show 2 * 0 + _ ≤ _; exact Nat.le_of_eq rfl) (hb hby at_128) ?_
  intro v258 T258 L258 X258 hQ258
  obtain ⟨rfl, N258q, K258, A258, B258_address, B258_ticket⟩ := hQ258
  have N258 := Fr.app N213 N258q
  show Goes p e below _ T258 (mkF m 131 #[.val (.int x0), .val (.int x1), .val (.long x2), .second, .val (.long x3), .second, .val (.long x4), .second, .val (.long x5), .second, .val (.int c0), .val (.int c1), .val (.int d0), .val (.int d1), .val (.ref a5), .val (.ref a25), .val (.ref a52), .val (.ref a112), .val (.ref a189), .unset, .unset, .unset] [(.ref a230)])
  have C259 := C231.keep K258 (allS G230 all0)
  have C260 := C232.keep K258
  have C262 := C234.keep K258 (ninS ne248 nin0) (ninS ne245 nin0)
  have C263 := C235.keep K258 (ninS ne247 nin0)
  have C264 := C236.keep K258 (ninS ne247 nin0)
  have C265 := C237.keep K258
  have C267 := C239.keep K258 (ninS ne250 nin0) (ninS ne246 nin0)
  have C268 := C240.keep K258 (ninS ne249 nin0)
  have C269 := C241.keep K258 (ninS ne249 nin0)
  have C270 := C242.keep K258
  have C271 := C243.keep K258 (ninS ne251 nin0)
  have C272 := C244.keep K258 (ninS ne251 nin0)
  have Z274 : n0 ≤ T258.heap.size := Nat.le_trans Z252 K258.1
  have Z275 : k176 ≤ T258.heap.size := Nat.le_trans Z253 K258.1
  have RR277 := RR255.trans (CHr.keep K258 (allS (Safe.exa hZ176.alike A230 (by decide) (by decide)) all0) RR255.1)
  refine Goes.on (T' := T258) (g' := (mkF m 144 #[.val (.int x0), .val (.int x1), .val (.long x2), .second, .val (.long x3), .second, .val (.long x4), .second, .val (.long x5), .second, .val (.int c0), .val (.int c1), .val (.int d0), .val (.int d1), .val (.ref a5), .val (.ref a25), .val (.ref a52), .val (.ref a112), .val (.ref a189), .val (.ref a230), .val (.int ((x1.toUInt32 >>> ((16 : Int32) &&& 31).toUInt32).toInt32 &&& (3 : Int32))), .unset] [(.int (1 : Int32)), (.int ((x1.toUInt32 >>> ((16 : Int32) &&& 31).toUInt32).toInt32 &&& (3 : Int32)))])) (fun _ k => XS.astore X258.here hx rfl (hb hby at_131) rfl rfl (l' := #[.val (.int x0), .val (.int x1), .val (.long x2), .second, .val (.long x3), .second, .val (.long x4), .second, .val (.long x5), .second, .val (.int c0), .val (.int c1), .val (.int d0), .val (.int d1), .val (.ref a5), .val (.ref a25), .val (.ref a52), .val (.ref a112), .val (.ref a189), .val (.ref a230), .unset, .unset]) rfl (XS.iloadN X258.here hx rfl (hb hby at_133) rfl (XS.bipush X258.here hx rfl (hb hby at_134) (XS.iushr X258.here hx rfl (hb hby at_136) rfl (XS.iconst X258.here hx rfl (hb hby at_137) (XS.iand X258.here hx rfl (hb hby at_138) rfl (XS.istore X258.here hx rfl (hb hby at_139) rfl (l' := #[.val (.int x0), .val (.int x1), .val (.long x2), .second, .val (.long x3), .second, .val (.long x4), .second, .val (.long x5), .second, .val (.int c0), .val (.int c1), .val (.int d0), .val (.int d1), .val (.ref a5), .val (.ref a25), .val (.ref a52), .val (.ref a112), .val (.ref a189), .val (.ref a230), .val (.int ((x1.toUInt32 >>> ((16 : Int32) &&& 31).toUInt32).toInt32 &&& (3 : Int32))), .unset]) rfl (XS.iload X258.here hx rfl (hb hby at_141) rfl (XS.iconst X258.here hx rfl (hb hby at_143) k))))))))) ?_
  by_cases hc278 : ((x1.toUInt32 >>> ((16 : Int32) &&& 31).toUInt32).toInt32 &&& (3 : Int32)) = (1 : Int32)
  · refine Goes.on (T' := T258) (g' := (mkF m 150 #[.val (.int x0), .val (.int x1), .val (.long x2), .second, .val (.long x3), .second, .val (.long x4), .second, .val (.long x5), .second, .val (.int c0), .val (.int c1), .val (.int d0), .val (.int d1), .val (.ref a5), .val (.ref a25), .val (.ref a52), .val (.ref a112), .val (.ref a189), .val (.ref a230), .val (.int ((x1.toUInt32 >>> ((16 : Int32) &&& 31).toUInt32).toInt32 &&& (3 : Int32))), .unset] [.null, (.ref a189)])) (fun _ k => XS.icmpNo X258.here hx rfl (hb hby at_144) rfl (XT.ii_ne_f hc278) (XS.aload X258.here hx rfl (hb hby at_147) rfl rfl (XS.aconstNull X258.here hx rfl (hb hby at_149) k))) ?_
    refine Goes.callV X258 hx hZ176 0 hown176 (own_w hw 119 rfl) (own_w hw 120 rfl) (notFace_of_selects (args := #[]) (mvT hZ176 (own_w hw 122 rfl))) (own_w hw 122 rfl) (own_w hw 121 rfl) (own_w hw 110 rfl) (own_w hw 123 rfl) (by decide) rfl C270 (rmTeN l Z a0 hw a189 T258.heap n0 Z274) (by decide) (by decide) (by decide) (by decide) rfl (by rw [hml]; rfl) (argsL := [.null]) (rest := []) rfl (lenOf pd_8 rfl) rfl (by show 2 * 0 + _ ≤ _; exact Nat.le_of_eq rfl) (hb hby at_150) ?_
    intro v279 T279 L279 X279 hQ279
    obtain ⟨rfl, N279q, e279⟩ := hQ279
    have N279 := Fr.app N258 N279q
    show Goes p e below _ T279 (mkF m 153 #[.val (.int x0), .val (.int x1), .val (.long x2), .second, .val (.long x3), .second, .val (.long x4), .second, .val (.long x5), .second, .val (.int c0), .val (.int c1), .val (.int d0), .val (.int d1), .val (.ref a5), .val (.ref a25), .val (.ref a52), .val (.ref a112), .val (.ref a189), .val (.ref a230), .val (.int ((x1.toUInt32 >>> ((16 : Int32) &&& 31).toUInt32).toInt32 &&& (3 : Int32))), .unset] [(.int (0 : Int32))])
    refine Goes.on (T' := T279) (g' := (mkF m 161 #[.val (.int x0), .val (.int x1), .val (.long x2), .second, .val (.long x3), .second, .val (.long x4), .second, .val (.long x5), .second, .val (.int c0), .val (.int c1), .val (.int d0), .val (.int d1), .val (.ref a5), .val (.ref a25), .val (.ref a52), .val (.ref a112), .val (.ref a189), .val (.ref a230), .val (.int ((x1.toUInt32 >>> ((16 : Int32) &&& 31).toUInt32).toInt32 &&& (3 : Int32))), .unset] [(.int (1 : Int32))])) (fun _ k => XS.ifNo X279.here hx rfl (hb hby at_153) rfl (XT.i0_ne_f (by decide)) (XS.iconst X279.here hx rfl (hb hby at_156) (XS.goto X279.here hx rfl (pc0 := 157) (pc' := 161) rfl (hb hby at_157) (by decide) (by decide) k))) ?_
    exact Goes.retBW X279 hS176 (by rw [e279]; exact Z275) hZ176 hEL (by rw [e279]; exact RR277) hx hlk hret (Or.inr rfl) (hb hby at_161) (by decide) (by decide) ⟨rfl, N279⟩
  · refine Goes.on (T' := T258) (g' := (mkF m 165 #[.val (.int x0), .val (.int x1), .val (.long x2), .second, .val (.long x3), .second, .val (.long x4), .second, .val (.long x5), .second, .val (.int c0), .val (.int c1), .val (.int d0), .val (.int d1), .val (.ref a5), .val (.ref a25), .val (.ref a52), .val (.ref a112), .val (.ref a189), .val (.ref a230), .val (.int ((x1.toUInt32 >>> ((16 : Int32) &&& 31).toUInt32).toInt32 &&& (3 : Int32))), .unset] [(.int (2 : Int32)), (.int ((x1.toUInt32 >>> ((16 : Int32) &&& 31).toUInt32).toInt32 &&& (3 : Int32)))])) (fun _ k => XS.icmpYes X258.here hx rfl (pc0 := 144) (pc' := 162) rfl (hb hby at_144) rfl (XT.ii_ne_t hc278) (by decide) (by decide) (XS.iload X258.here hx rfl (hb hby at_162) rfl (XS.iconst X258.here hx rfl (hb hby at_164) k))) ?_
    by_cases hc280 : ((x1.toUInt32 >>> ((16 : Int32) &&& 31).toUInt32).toInt32 &&& (3 : Int32)) = (2 : Int32)
    · refine Goes.on (T' := T258) (g' := (mkF m 172 #[.val (.int x0), .val (.int x1), .val (.long x2), .second, .val (.long x3), .second, .val (.long x4), .second, .val (.long x5), .second, .val (.int c0), .val (.int c1), .val (.int d0), .val (.int d1), .val (.ref a5), .val (.ref a25), .val (.ref a52), .val (.ref a112), .val (.ref a189), .val (.ref a230), .val (.int ((x1.toUInt32 >>> ((16 : Int32) &&& 31).toUInt32).toInt32 &&& (3 : Int32))), .unset] [(.ref a112), (.ref a189)])) (fun _ k => XS.icmpNo X258.here hx rfl (hb hby at_165) rfl (XT.ii_ne_f hc280) (XS.aload X258.here hx rfl (hb hby at_168) rfl rfl (XS.aload X258.here hx rfl (hb hby at_170) rfl rfl k))) ?_
      refine Goes.callV X258 hx hZ176 0 hown176 (own_w hw 119 rfl) (own_w hw 120 rfl) (notFace_of_selects (args := #[]) (mvT hZ176 (own_w hw 122 rfl))) (own_w hw 122 rfl) (own_w hw 121 rfl) (own_w hw 110 rfl) (own_w hw 123 rfl) (by decide) rfl C270 (rmTeO l Z a0 hw a189 a112 T258.heap n0 Z274 C265) (by decide) (by decide) (by decide) (by decide) rfl (by rw [hml]; rfl) (argsL := [(.ref a112)]) (rest := []) rfl (lenOf pd_8 rfl) rfl (by show 2 * 0 + _ ≤ _; exact Nat.le_of_eq rfl) (hb hby at_172) ?_
      intro v281 T281 L281 X281 hQ281
      obtain ⟨rfl, N281q, e281⟩ := hQ281
      have N281 := Fr.app N258 N281q
      show Goes p e below _ T281 (mkF m 175 #[.val (.int x0), .val (.int x1), .val (.long x2), .second, .val (.long x3), .second, .val (.long x4), .second, .val (.long x5), .second, .val (.int c0), .val (.int c1), .val (.int d0), .val (.int d1), .val (.ref a5), .val (.ref a25), .val (.ref a52), .val (.ref a112), .val (.ref a189), .val (.ref a230), .val (.int ((x1.toUInt32 >>> ((16 : Int32) &&& 31).toUInt32).toInt32 &&& (3 : Int32))), .unset] [(.int (0 : Int32))])
      refine Goes.on (T' := T281) (g' := (mkF m 183 #[.val (.int x0), .val (.int x1), .val (.long x2), .second, .val (.long x3), .second, .val (.long x4), .second, .val (.long x5), .second, .val (.int c0), .val (.int c1), .val (.int d0), .val (.int d1), .val (.ref a5), .val (.ref a25), .val (.ref a52), .val (.ref a112), .val (.ref a189), .val (.ref a230), .val (.int ((x1.toUInt32 >>> ((16 : Int32) &&& 31).toUInt32).toInt32 &&& (3 : Int32))), .unset] [(.int (1 : Int32))])) (fun _ k => XS.ifNo X281.here hx rfl (hb hby at_175) rfl (XT.i0_ne_f (by decide)) (XS.iconst X281.here hx rfl (hb hby at_178) (XS.goto X281.here hx rfl (pc0 := 179) (pc' := 183) rfl (hb hby at_179) (by decide) (by decide) k))) ?_
      exact Goes.retBW X281 hS176 (by rw [e281]; exact Z275) hZ176 hEL (by rw [e281]; exact RR277) hx hlk hret (Or.inr rfl) (hb hby at_183) (by decide) (by decide) ⟨rfl, N281⟩
    · refine Goes.on (T' := T258) (g' := (mkF m 187 #[.val (.int x0), .val (.int x1), .val (.long x2), .second, .val (.long x3), .second, .val (.long x4), .second, .val (.long x5), .second, .val (.int c0), .val (.int c1), .val (.int d0), .val (.int d1), .val (.ref a5), .val (.ref a25), .val (.ref a52), .val (.ref a112), .val (.ref a189), .val (.ref a230), .val (.int ((x1.toUInt32 >>> ((16 : Int32) &&& 31).toUInt32).toInt32 &&& (3 : Int32))), .unset] [(.int (3 : Int32)), (.int ((x1.toUInt32 >>> ((16 : Int32) &&& 31).toUInt32).toInt32 &&& (3 : Int32)))])) (fun _ k => XS.icmpYes X258.here hx rfl (pc0 := 165) (pc' := 184) rfl (hb hby at_165) rfl (XT.ii_ne_t hc280) (by decide) (by decide) (XS.iload X258.here hx rfl (hb hby at_184) rfl (XS.iconst X258.here hx rfl (hb hby at_186) k))) ?_
      by_cases hc282 : ((x1.toUInt32 >>> ((16 : Int32) &&& 31).toUInt32).toInt32 &&& (3 : Int32)) = (3 : Int32)
      · refine Goes.on (T' := T258) (g' := (mkF m 194 #[.val (.int x0), .val (.int x1), .val (.long x2), .second, .val (.long x3), .second, .val (.long x4), .second, .val (.long x5), .second, .val (.int c0), .val (.int c1), .val (.int d0), .val (.int d1), .val (.ref a5), .val (.ref a25), .val (.ref a52), .val (.ref a112), .val (.ref a189), .val (.ref a230), .val (.int ((x1.toUInt32 >>> ((16 : Int32) &&& 31).toUInt32).toInt32 &&& (3 : Int32))), .unset] [(.ref a189), (.ref a189)])) (fun _ k => XS.icmpNo X258.here hx rfl (hb hby at_187) rfl (XT.ii_ne_f hc282) (XS.aload X258.here hx rfl (hb hby at_190) rfl rfl (XS.aload X258.here hx rfl (hb hby at_192) rfl rfl k))) ?_
        refine Goes.callV X258 hx hZ176 0 hown176 (own_w hw 119 rfl) (own_w hw 120 rfl) (notFace_of_selects (args := #[]) (mvT hZ176 (own_w hw 122 rfl))) (own_w hw 122 rfl) (own_w hw 121 rfl) (own_w hw 110 rfl) (own_w hw 123 rfl) (by decide) rfl C270 (rmTe l Z a0 hw a189 a189 (c0.toInt8.toInt32) (c1.toInt8.toInt32) (c0.toInt8.toInt32) (c1.toInt8.toInt32) T258.heap n0 Z274 C259 cs SC hcs a52 a52 a66 a66 t85 t85 kb85 kb85 x2 x2 x4 x4 C270 C271 C272 C260 C263 C264 C270 C271 C272 C260 C263 C264 C262 C262 (1 : Int32) (Or.inr rfl) (own_T ⟨⟨⟨rfl, rfl⟩, rfl⟩, rfl⟩)) (by decide) (by decide) (by decide) (by decide) rfl (by rw [hml]; rfl) (argsL := [(.ref a189)]) (rest := []) rfl (lenOf pd_8 rfl) rfl (by show 2 * 0 + _ ≤ _; exact Nat.le_of_eq rfl) (hb hby at_194) ?_
        intro v283 T283 L283 X283 hQ283
        obtain ⟨rfl, N283q, e283⟩ := hQ283
        have N283 := Fr.app N258 N283q
        show Goes p e below _ T283 (mkF m 197 #[.val (.int x0), .val (.int x1), .val (.long x2), .second, .val (.long x3), .second, .val (.long x4), .second, .val (.long x5), .second, .val (.int c0), .val (.int c1), .val (.int d0), .val (.int d1), .val (.ref a5), .val (.ref a25), .val (.ref a52), .val (.ref a112), .val (.ref a189), .val (.ref a230), .val (.int ((x1.toUInt32 >>> ((16 : Int32) &&& 31).toUInt32).toInt32 &&& (3 : Int32))), .unset] [(.int (1 : Int32))])
        exact Goes.retBW X283 hS176 (by rw [e283]; exact Z275) hZ176 hEL (by rw [e283]; exact RR277) hx hlk hret (Or.inr rfl) (hb hby at_197) (by decide) (by decide) ⟨rfl, N283⟩
      · refine Goes.on (T' := T258) (g' := (mkF m 202 #[.val (.int x0), .val (.int x1), .val (.long x2), .second, .val (.long x3), .second, .val (.long x4), .second, .val (.long x5), .second, .val (.int c0), .val (.int c1), .val (.int d0), .val (.int d1), .val (.ref a5), .val (.ref a25), .val (.ref a52), .val (.ref a112), .val (.ref a189), .val (.ref a230), .val (.int ((x1.toUInt32 >>> ((16 : Int32) &&& 31).toUInt32).toInt32 &&& (3 : Int32))), .unset] [(.int d0), (.int c0)])) (fun _ k => XS.icmpYes X258.here hx rfl (pc0 := 187) (pc' := 198) rfl (hb hby at_187) rfl (XT.ii_ne_t hc282) (by decide) (by decide) (XS.iload X258.here hx rfl (hb hby at_198) rfl (XS.iload X258.here hx rfl (hb hby at_200) rfl k))) ?_
        by_cases hc284 : c0 = d0
        · refine Goes.on (T' := T258) (g' := (mkF m 209 #[.val (.int x0), .val (.int x1), .val (.long x2), .second, .val (.long x3), .second, .val (.long x4), .second, .val (.long x5), .second, .val (.int c0), .val (.int c1), .val (.int d0), .val (.int d1), .val (.ref a5), .val (.ref a25), .val (.ref a52), .val (.ref a112), .val (.ref a189), .val (.ref a230), .val (.int ((x1.toUInt32 >>> ((16 : Int32) &&& 31).toUInt32).toInt32 &&& (3 : Int32))), .unset] [(.int d1), (.int c1)])) (fun _ k => XS.icmpNo X258.here hx rfl (hb hby at_202) rfl (XT.ii_ne_f hc284) (XS.iload X258.here hx rfl (hb hby at_205) rfl (XS.iload X258.here hx rfl (hb hby at_207) rfl k))) ?_
          by_cases hc285 : c1 = d1
          · refine Goes.on (T' := T258) (g' := (mkF m 216 #[.val (.int x0), .val (.int x1), .val (.long x2), .second, .val (.long x3), .second, .val (.long x4), .second, .val (.long x5), .second, .val (.int c0), .val (.int c1), .val (.int d0), .val (.int d1), .val (.ref a5), .val (.ref a25), .val (.ref a52), .val (.ref a112), .val (.ref a189), .val (.ref a230), .val (.int ((x1.toUInt32 >>> ((16 : Int32) &&& 31).toUInt32).toInt32 &&& (3 : Int32))), .unset] [(.int (XT.cmpL x2 x3))])) (fun _ k => XS.icmpNo X258.here hx rfl (hb hby at_209) rfl (XT.ii_ne_f hc285) (XS.lloadN X258.here hx rfl (hb hby at_212) rfl (XS.lload X258.here hx rfl (hb hby at_213) rfl (XT.lcmp X258.here hx rfl (hb hby at_215) rfl k)))) ?_
            by_cases hc286 : x2 = x3
            · refine Goes.on (T' := T258) (g' := (mkF m 224 #[.val (.int x0), .val (.int x1), .val (.long x2), .second, .val (.long x3), .second, .val (.long x4), .second, .val (.long x5), .second, .val (.int c0), .val (.int c1), .val (.int d0), .val (.int d1), .val (.ref a5), .val (.ref a25), .val (.ref a52), .val (.ref a112), .val (.ref a189), .val (.ref a230), .val (.int ((x1.toUInt32 >>> ((16 : Int32) &&& 31).toUInt32).toInt32 &&& (3 : Int32))), .unset] [(.int (XT.cmpL x4 x5))])) (fun _ k => XS.ifNo X258.here hx rfl (hb hby at_216) rfl (XT.ll_ne_f hc286) (XS.lload X258.here hx rfl (hb hby at_219) rfl (XS.lload X258.here hx rfl (hb hby at_221) rfl (XT.lcmp X258.here hx rfl (hb hby at_223) rfl k)))) ?_
              by_cases hc287 : x4 = x5
              · refine Goes.on (T' := T258) (g' := (mkF m 238 #[.val (.int x0), .val (.int x1), .val (.long x2), .second, .val (.long x3), .second, .val (.long x4), .second, .val (.long x5), .second, .val (.int c0), .val (.int c1), .val (.int d0), .val (.int d1), .val (.ref a5), .val (.ref a25), .val (.ref a52), .val (.ref a112), .val (.ref a189), .val (.ref a230), .val (.int ((x1.toUInt32 >>> ((16 : Int32) &&& 31).toUInt32).toInt32 &&& (3 : Int32))), .val (.int (1 : Int32))] [(.ref a230), (.ref a189)])) (fun _ k => XS.ifNo X258.here hx rfl (hb hby at_224) rfl (XT.ll_ne_f hc287) (XS.iconst X258.here hx rfl (hb hby at_227) (XS.goto X258.here hx rfl (pc0 := 228) (pc' := 232) rfl (hb hby at_228) (by decide) (by decide) (XS.istore X258.here hx rfl (hb hby at_232) rfl (l' := #[.val (.int x0), .val (.int x1), .val (.long x2), .second, .val (.long x3), .second, .val (.long x4), .second, .val (.long x5), .second, .val (.int c0), .val (.int c1), .val (.int d0), .val (.int d1), .val (.ref a5), .val (.ref a25), .val (.ref a52), .val (.ref a112), .val (.ref a189), .val (.ref a230), .val (.int ((x1.toUInt32 >>> ((16 : Int32) &&& 31).toUInt32).toInt32 &&& (3 : Int32))), .val (.int (1 : Int32))]) rfl (XS.aload X258.here hx rfl (hb hby at_234) rfl rfl (XS.aload X258.here hx rfl (hb hby at_236) rfl rfl k)))))) ?_
                refine Goes.callV X258 hx hZ176 0 hown176 (own_w hw 119 rfl) (own_w hw 120 rfl) (notFace_of_selects (args := #[]) (mvT hZ176 (own_w hw 122 rfl))) (own_w hw 122 rfl) (own_w hw 121 rfl) (own_w hw 110 rfl) (own_w hw 123 rfl) (by decide) rfl C270 (rmTe l Z a0 hw a189 a230 (c0.toInt8.toInt32) (c1.toInt8.toInt32) (d0.toInt8.toInt32) (d1.toInt8.toInt32) T258.heap n0 Z274 C259 cs SC hcs a52 a112 a66 a131 t85 t155 kb85 kb155 x2 x3 x4 x5 C270 C271 C272 C260 C263 C264 A258 B258_address B258_ticket C265 C268 C269 C262 C267 (1 : Int32) (Or.inr rfl) (own_T ⟨⟨⟨congrArg (fun c => c.toInt8.toInt32) hc284, congrArg (fun c => c.toInt8.toInt32) hc285⟩, hc286⟩, hc287.symm⟩)) (by decide) (by decide) (by decide) (by decide) rfl (by rw [hml]; rfl) (argsL := [(.ref a230)]) (rest := []) rfl (lenOf pd_8 rfl) rfl (by show 2 * 0 + _ ≤ _; exact Nat.le_of_eq rfl) (hb hby at_238) ?_
                intro v288 T288 L288 X288 hQ288
                obtain ⟨rfl, N288q, e288⟩ := hQ288
                have N288 := Fr.app N258 N288q
                show Goes p e below _ T288 (mkF m 241 #[.val (.int x0), .val (.int x1), .val (.long x2), .second, .val (.long x3), .second, .val (.long x4), .second, .val (.long x5), .second, .val (.int c0), .val (.int c1), .val (.int d0), .val (.int d1), .val (.ref a5), .val (.ref a25), .val (.ref a52), .val (.ref a112), .val (.ref a189), .val (.ref a230), .val (.int ((x1.toUInt32 >>> ((16 : Int32) &&& 31).toUInt32).toInt32 &&& (3 : Int32))), .val (.int (1 : Int32))] [(.int (1 : Int32))])
                refine Goes.on (T' := T288) (g' := (mkF m 250 #[.val (.int x0), .val (.int x1), .val (.long x2), .second, .val (.long x3), .second, .val (.long x4), .second, .val (.long x5), .second, .val (.int c0), .val (.int c1), .val (.int d0), .val (.int d1), .val (.ref a5), .val (.ref a25), .val (.ref a52), .val (.ref a112), .val (.ref a189), .val (.ref a230), .val (.int ((x1.toUInt32 >>> ((16 : Int32) &&& 31).toUInt32).toInt32 &&& (3 : Int32))), .val (.int (1 : Int32))] [(.ref a189), (.ref a230)])) (fun _ k => XS.iload X288.here hx rfl (hb hby at_241) rfl (XS.icmpNo X288.here hx rfl (hb hby at_243) rfl (XT.ii_ne_f (by decide)) (XS.aload X288.here hx rfl (hb hby at_246) rfl rfl (XS.aload X288.here hx rfl (hb hby at_248) rfl rfl k)))) ?_
                refine Goes.callV X288 hx hZ176 0 hown176 (own_w hw 119 rfl) (own_w hw 120 rfl) (notFace_of_selects (args := #[]) (mvT hZ176 (own_w hw 122 rfl))) (own_w hw 122 rfl) (own_w hw 121 rfl) (own_w hw 110 rfl) (own_w hw 123 rfl) (by decide) e288 A258 (rmTe l Z a0 hw a230 a189 (d0.toInt8.toInt32) (d1.toInt8.toInt32) (c0.toInt8.toInt32) (c1.toInt8.toInt32) T258.heap n0 Z274 C259 cs SC hcs a112 a52 a131 a66 t155 t85 kb155 kb85 x3 x2 x5 x4 A258 B258_address B258_ticket C265 C268 C269 C270 C271 C272 C260 C263 C264 C267 C262 (1 : Int32) (Or.inr rfl) (own_T ⟨⟨⟨congrArg (fun c => c.toInt8.toInt32) hc284.symm, congrArg (fun c => c.toInt8.toInt32) hc285.symm⟩, hc286.symm⟩, hc287⟩)) (by decide) (by decide) (by decide) (by decide) rfl (by rw [hml]; rfl) (argsL := [(.ref a189)]) (rest := []) rfl (lenOf pd_8 rfl) rfl (by show 2 * 0 + _ ≤ _; exact Nat.le_of_eq rfl) (hb hby at_250) ?_
                intro v289 T289 L289 X289 hQ289
                obtain ⟨rfl, N289q, e289⟩ := hQ289
                have N289 := Fr.app N288 N289q
                show Goes p e below _ T289 (mkF m 253 #[.val (.int x0), .val (.int x1), .val (.long x2), .second, .val (.long x3), .second, .val (.long x4), .second, .val (.long x5), .second, .val (.int c0), .val (.int c1), .val (.int d0), .val (.int d1), .val (.ref a5), .val (.ref a25), .val (.ref a52), .val (.ref a112), .val (.ref a189), .val (.ref a230), .val (.int ((x1.toUInt32 >>> ((16 : Int32) &&& 31).toUInt32).toInt32 &&& (3 : Int32))), .val (.int (1 : Int32))] [(.int (1 : Int32))])
                refine Goes.on (T' := T289) (g' := (mkF m 263 #[.val (.int x0), .val (.int x1), .val (.long x2), .second, .val (.long x3), .second, .val (.long x4), .second, .val (.long x5), .second, .val (.int c0), .val (.int c1), .val (.int d0), .val (.int d1), .val (.ref a5), .val (.ref a25), .val (.ref a52), .val (.ref a112), .val (.ref a189), .val (.ref a230), .val (.int ((x1.toUInt32 >>> ((16 : Int32) &&& 31).toUInt32).toInt32 &&& (3 : Int32))), .val (.int (1 : Int32))] [(.int (1 : Int32))])) (fun _ k => XS.iload X289.here hx rfl (hb hby at_253) rfl (XS.icmpNo X289.here hx rfl (hb hby at_255) rfl (XT.ii_ne_f (by decide)) (XS.iconst X289.here hx rfl (hb hby at_258) (XS.goto X289.here hx rfl (pc0 := 259) (pc' := 263) rfl (hb hby at_259) (by decide) (by decide) k)))) ?_
                exact Goes.retBW X289 hS176 (by rw [e289]; exact Z275) hZ176 hEL (by rw [e289]; exact RR277) hx hlk hret (Or.inr rfl) (hb hby at_263) (by decide) (by decide) ⟨rfl, N289⟩
              · refine Goes.on (T' := T258) (g' := (mkF m 238 #[.val (.int x0), .val (.int x1), .val (.long x2), .second, .val (.long x3), .second, .val (.long x4), .second, .val (.long x5), .second, .val (.int c0), .val (.int c1), .val (.int d0), .val (.int d1), .val (.ref a5), .val (.ref a25), .val (.ref a52), .val (.ref a112), .val (.ref a189), .val (.ref a230), .val (.int ((x1.toUInt32 >>> ((16 : Int32) &&& 31).toUInt32).toInt32 &&& (3 : Int32))), .val (.int (0 : Int32))] [(.ref a230), (.ref a189)])) (fun _ k => XS.ifYes X258.here hx rfl (pc0 := 224) (pc' := 231) rfl (hb hby at_224) rfl (XT.ll_ne_t hc287) (by decide) (by decide) (XS.iconst X258.here hx rfl (hb hby at_231) (XS.istore X258.here hx rfl (hb hby at_232) rfl (l' := #[.val (.int x0), .val (.int x1), .val (.long x2), .second, .val (.long x3), .second, .val (.long x4), .second, .val (.long x5), .second, .val (.int c0), .val (.int c1), .val (.int d0), .val (.int d1), .val (.ref a5), .val (.ref a25), .val (.ref a52), .val (.ref a112), .val (.ref a189), .val (.ref a230), .val (.int ((x1.toUInt32 >>> ((16 : Int32) &&& 31).toUInt32).toInt32 &&& (3 : Int32))), .val (.int (0 : Int32))]) rfl (XS.aload X258.here hx rfl (hb hby at_234) rfl rfl (XS.aload X258.here hx rfl (hb hby at_236) rfl rfl k))))) ?_
                refine Goes.callV X258 hx hZ176 0 hown176 (own_w hw 119 rfl) (own_w hw 120 rfl) (notFace_of_selects (args := #[]) (mvT hZ176 (own_w hw 122 rfl))) (own_w hw 122 rfl) (own_w hw 121 rfl) (own_w hw 110 rfl) (own_w hw 123 rfl) (by decide) rfl C270 (rmTe l Z a0 hw a189 a230 (c0.toInt8.toInt32) (c1.toInt8.toInt32) (d0.toInt8.toInt32) (d1.toInt8.toInt32) T258.heap n0 Z274 C259 cs SC hcs a52 a112 a66 a131 t85 t155 kb85 kb155 x2 x3 x4 x5 C270 C271 C272 C260 C263 C264 A258 B258_address B258_ticket C265 C268 C269 C262 C267 (0 : Int32) (Or.inl rfl) (own_F (fun q => hc287 (q.2.symm)))) (by decide) (by decide) (by decide) (by decide) rfl (by rw [hml]; rfl) (argsL := [(.ref a230)]) (rest := []) rfl (lenOf pd_8 rfl) rfl (by show 2 * 0 + _ ≤ _; exact Nat.le_of_eq rfl) (hb hby at_238) ?_
                intro v290 T290 L290 X290 hQ290
                obtain ⟨rfl, N290q, e290⟩ := hQ290
                have N290 := Fr.app N258 N290q
                show Goes p e below _ T290 (mkF m 241 #[.val (.int x0), .val (.int x1), .val (.long x2), .second, .val (.long x3), .second, .val (.long x4), .second, .val (.long x5), .second, .val (.int c0), .val (.int c1), .val (.int d0), .val (.int d1), .val (.ref a5), .val (.ref a25), .val (.ref a52), .val (.ref a112), .val (.ref a189), .val (.ref a230), .val (.int ((x1.toUInt32 >>> ((16 : Int32) &&& 31).toUInt32).toInt32 &&& (3 : Int32))), .val (.int (0 : Int32))] [(.int (0 : Int32))])
                refine Goes.on (T' := T290) (g' := (mkF m 250 #[.val (.int x0), .val (.int x1), .val (.long x2), .second, .val (.long x3), .second, .val (.long x4), .second, .val (.long x5), .second, .val (.int c0), .val (.int c1), .val (.int d0), .val (.int d1), .val (.ref a5), .val (.ref a25), .val (.ref a52), .val (.ref a112), .val (.ref a189), .val (.ref a230), .val (.int ((x1.toUInt32 >>> ((16 : Int32) &&& 31).toUInt32).toInt32 &&& (3 : Int32))), .val (.int (0 : Int32))] [(.ref a189), (.ref a230)])) (fun _ k => XS.iload X290.here hx rfl (hb hby at_241) rfl (XS.icmpNo X290.here hx rfl (hb hby at_243) rfl (XT.ii_ne_f (by decide)) (XS.aload X290.here hx rfl (hb hby at_246) rfl rfl (XS.aload X290.here hx rfl (hb hby at_248) rfl rfl k)))) ?_
                refine Goes.callV X290 hx hZ176 0 hown176 (own_w hw 119 rfl) (own_w hw 120 rfl) (notFace_of_selects (args := #[]) (mvT hZ176 (own_w hw 122 rfl))) (own_w hw 122 rfl) (own_w hw 121 rfl) (own_w hw 110 rfl) (own_w hw 123 rfl) (by decide) e290 A258 (rmTe l Z a0 hw a230 a189 (d0.toInt8.toInt32) (d1.toInt8.toInt32) (c0.toInt8.toInt32) (c1.toInt8.toInt32) T258.heap n0 Z274 C259 cs SC hcs a112 a52 a131 a66 t155 t85 kb155 kb85 x3 x2 x5 x4 A258 B258_address B258_ticket C265 C268 C269 C270 C271 C272 C260 C263 C264 C267 C262 (0 : Int32) (Or.inl rfl) (own_F (fun q => hc287 (q.2)))) (by decide) (by decide) (by decide) (by decide) rfl (by rw [hml]; rfl) (argsL := [(.ref a189)]) (rest := []) rfl (lenOf pd_8 rfl) rfl (by show 2 * 0 + _ ≤ _; exact Nat.le_of_eq rfl) (hb hby at_250) ?_
                intro v291 T291 L291 X291 hQ291
                obtain ⟨rfl, N291q, e291⟩ := hQ291
                have N291 := Fr.app N290 N291q
                show Goes p e below _ T291 (mkF m 253 #[.val (.int x0), .val (.int x1), .val (.long x2), .second, .val (.long x3), .second, .val (.long x4), .second, .val (.long x5), .second, .val (.int c0), .val (.int c1), .val (.int d0), .val (.int d1), .val (.ref a5), .val (.ref a25), .val (.ref a52), .val (.ref a112), .val (.ref a189), .val (.ref a230), .val (.int ((x1.toUInt32 >>> ((16 : Int32) &&& 31).toUInt32).toInt32 &&& (3 : Int32))), .val (.int (0 : Int32))] [(.int (0 : Int32))])
                refine Goes.on (T' := T291) (g' := (mkF m 263 #[.val (.int x0), .val (.int x1), .val (.long x2), .second, .val (.long x3), .second, .val (.long x4), .second, .val (.long x5), .second, .val (.int c0), .val (.int c1), .val (.int d0), .val (.int d1), .val (.ref a5), .val (.ref a25), .val (.ref a52), .val (.ref a112), .val (.ref a189), .val (.ref a230), .val (.int ((x1.toUInt32 >>> ((16 : Int32) &&& 31).toUInt32).toInt32 &&& (3 : Int32))), .val (.int (0 : Int32))] [(.int (1 : Int32))])) (fun _ k => XS.iload X291.here hx rfl (hb hby at_253) rfl (XS.icmpNo X291.here hx rfl (hb hby at_255) rfl (XT.ii_ne_f (by decide)) (XS.iconst X291.here hx rfl (hb hby at_258) (XS.goto X291.here hx rfl (pc0 := 259) (pc' := 263) rfl (hb hby at_259) (by decide) (by decide) k)))) ?_
                exact Goes.retBW X291 hS176 (by rw [e291]; exact Z275) hZ176 hEL (by rw [e291]; exact RR277) hx hlk hret (Or.inr rfl) (hb hby at_263) (by decide) (by decide) ⟨rfl, N291⟩
            · refine Goes.on (T' := T258) (g' := (mkF m 238 #[.val (.int x0), .val (.int x1), .val (.long x2), .second, .val (.long x3), .second, .val (.long x4), .second, .val (.long x5), .second, .val (.int c0), .val (.int c1), .val (.int d0), .val (.int d1), .val (.ref a5), .val (.ref a25), .val (.ref a52), .val (.ref a112), .val (.ref a189), .val (.ref a230), .val (.int ((x1.toUInt32 >>> ((16 : Int32) &&& 31).toUInt32).toInt32 &&& (3 : Int32))), .val (.int (0 : Int32))] [(.ref a230), (.ref a189)])) (fun _ k => XS.ifYes X258.here hx rfl (pc0 := 216) (pc' := 231) rfl (hb hby at_216) rfl (XT.ll_ne_t hc286) (by decide) (by decide) (XS.iconst X258.here hx rfl (hb hby at_231) (XS.istore X258.here hx rfl (hb hby at_232) rfl (l' := #[.val (.int x0), .val (.int x1), .val (.long x2), .second, .val (.long x3), .second, .val (.long x4), .second, .val (.long x5), .second, .val (.int c0), .val (.int c1), .val (.int d0), .val (.int d1), .val (.ref a5), .val (.ref a25), .val (.ref a52), .val (.ref a112), .val (.ref a189), .val (.ref a230), .val (.int ((x1.toUInt32 >>> ((16 : Int32) &&& 31).toUInt32).toInt32 &&& (3 : Int32))), .val (.int (0 : Int32))]) rfl (XS.aload X258.here hx rfl (hb hby at_234) rfl rfl (XS.aload X258.here hx rfl (hb hby at_236) rfl rfl k))))) ?_
              refine Goes.callV X258 hx hZ176 0 hown176 (own_w hw 119 rfl) (own_w hw 120 rfl) (notFace_of_selects (args := #[]) (mvT hZ176 (own_w hw 122 rfl))) (own_w hw 122 rfl) (own_w hw 121 rfl) (own_w hw 110 rfl) (own_w hw 123 rfl) (by decide) rfl C270 (rmTe l Z a0 hw a189 a230 (c0.toInt8.toInt32) (c1.toInt8.toInt32) (d0.toInt8.toInt32) (d1.toInt8.toInt32) T258.heap n0 Z274 C259 cs SC hcs a52 a112 a66 a131 t85 t155 kb85 kb155 x2 x3 x4 x5 C270 C271 C272 C260 C263 C264 A258 B258_address B258_ticket C265 C268 C269 C262 C267 (0 : Int32) (Or.inl rfl) (own_F (fun q => hc286 (q.1.2)))) (by decide) (by decide) (by decide) (by decide) rfl (by rw [hml]; rfl) (argsL := [(.ref a230)]) (rest := []) rfl (lenOf pd_8 rfl) rfl (by show 2 * 0 + _ ≤ _; exact Nat.le_of_eq rfl) (hb hby at_238) ?_
              intro v292 T292 L292 X292 hQ292
              obtain ⟨rfl, N292q, e292⟩ := hQ292
              have N292 := Fr.app N258 N292q
              show Goes p e below _ T292 (mkF m 241 #[.val (.int x0), .val (.int x1), .val (.long x2), .second, .val (.long x3), .second, .val (.long x4), .second, .val (.long x5), .second, .val (.int c0), .val (.int c1), .val (.int d0), .val (.int d1), .val (.ref a5), .val (.ref a25), .val (.ref a52), .val (.ref a112), .val (.ref a189), .val (.ref a230), .val (.int ((x1.toUInt32 >>> ((16 : Int32) &&& 31).toUInt32).toInt32 &&& (3 : Int32))), .val (.int (0 : Int32))] [(.int (0 : Int32))])
              refine Goes.on (T' := T292) (g' := (mkF m 250 #[.val (.int x0), .val (.int x1), .val (.long x2), .second, .val (.long x3), .second, .val (.long x4), .second, .val (.long x5), .second, .val (.int c0), .val (.int c1), .val (.int d0), .val (.int d1), .val (.ref a5), .val (.ref a25), .val (.ref a52), .val (.ref a112), .val (.ref a189), .val (.ref a230), .val (.int ((x1.toUInt32 >>> ((16 : Int32) &&& 31).toUInt32).toInt32 &&& (3 : Int32))), .val (.int (0 : Int32))] [(.ref a189), (.ref a230)])) (fun _ k => XS.iload X292.here hx rfl (hb hby at_241) rfl (XS.icmpNo X292.here hx rfl (hb hby at_243) rfl (XT.ii_ne_f (by decide)) (XS.aload X292.here hx rfl (hb hby at_246) rfl rfl (XS.aload X292.here hx rfl (hb hby at_248) rfl rfl k)))) ?_
              refine Goes.callV X292 hx hZ176 0 hown176 (own_w hw 119 rfl) (own_w hw 120 rfl) (notFace_of_selects (args := #[]) (mvT hZ176 (own_w hw 122 rfl))) (own_w hw 122 rfl) (own_w hw 121 rfl) (own_w hw 110 rfl) (own_w hw 123 rfl) (by decide) e292 A258 (rmTe l Z a0 hw a230 a189 (d0.toInt8.toInt32) (d1.toInt8.toInt32) (c0.toInt8.toInt32) (c1.toInt8.toInt32) T258.heap n0 Z274 C259 cs SC hcs a112 a52 a131 a66 t155 t85 kb155 kb85 x3 x2 x5 x4 A258 B258_address B258_ticket C265 C268 C269 C270 C271 C272 C260 C263 C264 C267 C262 (0 : Int32) (Or.inl rfl) (own_F (fun q => hc286 (q.1.2.symm)))) (by decide) (by decide) (by decide) (by decide) rfl (by rw [hml]; rfl) (argsL := [(.ref a189)]) (rest := []) rfl (lenOf pd_8 rfl) rfl (by show 2 * 0 + _ ≤ _; exact Nat.le_of_eq rfl) (hb hby at_250) ?_
              intro v293 T293 L293 X293 hQ293
              obtain ⟨rfl, N293q, e293⟩ := hQ293
              have N293 := Fr.app N292 N293q
              show Goes p e below _ T293 (mkF m 253 #[.val (.int x0), .val (.int x1), .val (.long x2), .second, .val (.long x3), .second, .val (.long x4), .second, .val (.long x5), .second, .val (.int c0), .val (.int c1), .val (.int d0), .val (.int d1), .val (.ref a5), .val (.ref a25), .val (.ref a52), .val (.ref a112), .val (.ref a189), .val (.ref a230), .val (.int ((x1.toUInt32 >>> ((16 : Int32) &&& 31).toUInt32).toInt32 &&& (3 : Int32))), .val (.int (0 : Int32))] [(.int (0 : Int32))])
              refine Goes.on (T' := T293) (g' := (mkF m 263 #[.val (.int x0), .val (.int x1), .val (.long x2), .second, .val (.long x3), .second, .val (.long x4), .second, .val (.long x5), .second, .val (.int c0), .val (.int c1), .val (.int d0), .val (.int d1), .val (.ref a5), .val (.ref a25), .val (.ref a52), .val (.ref a112), .val (.ref a189), .val (.ref a230), .val (.int ((x1.toUInt32 >>> ((16 : Int32) &&& 31).toUInt32).toInt32 &&& (3 : Int32))), .val (.int (0 : Int32))] [(.int (1 : Int32))])) (fun _ k => XS.iload X293.here hx rfl (hb hby at_253) rfl (XS.icmpNo X293.here hx rfl (hb hby at_255) rfl (XT.ii_ne_f (by decide)) (XS.iconst X293.here hx rfl (hb hby at_258) (XS.goto X293.here hx rfl (pc0 := 259) (pc' := 263) rfl (hb hby at_259) (by decide) (by decide) k)))) ?_
              exact Goes.retBW X293 hS176 (by rw [e293]; exact Z275) hZ176 hEL (by rw [e293]; exact RR277) hx hlk hret (Or.inr rfl) (hb hby at_263) (by decide) (by decide) ⟨rfl, N293⟩
          · refine Goes.on (T' := T258) (g' := (mkF m 238 #[.val (.int x0), .val (.int x1), .val (.long x2), .second, .val (.long x3), .second, .val (.long x4), .second, .val (.long x5), .second, .val (.int c0), .val (.int c1), .val (.int d0), .val (.int d1), .val (.ref a5), .val (.ref a25), .val (.ref a52), .val (.ref a112), .val (.ref a189), .val (.ref a230), .val (.int ((x1.toUInt32 >>> ((16 : Int32) &&& 31).toUInt32).toInt32 &&& (3 : Int32))), .val (.int (0 : Int32))] [(.ref a230), (.ref a189)])) (fun _ k => XS.icmpYes X258.here hx rfl (pc0 := 209) (pc' := 231) rfl (hb hby at_209) rfl (XT.ii_ne_t hc285) (by decide) (by decide) (XS.iconst X258.here hx rfl (hb hby at_231) (XS.istore X258.here hx rfl (hb hby at_232) rfl (l' := #[.val (.int x0), .val (.int x1), .val (.long x2), .second, .val (.long x3), .second, .val (.long x4), .second, .val (.long x5), .second, .val (.int c0), .val (.int c1), .val (.int d0), .val (.int d1), .val (.ref a5), .val (.ref a25), .val (.ref a52), .val (.ref a112), .val (.ref a189), .val (.ref a230), .val (.int ((x1.toUInt32 >>> ((16 : Int32) &&& 31).toUInt32).toInt32 &&& (3 : Int32))), .val (.int (0 : Int32))]) rfl (XS.aload X258.here hx rfl (hb hby at_234) rfl rfl (XS.aload X258.here hx rfl (hb hby at_236) rfl rfl k))))) ?_
            refine Goes.callV X258 hx hZ176 0 hown176 (own_w hw 119 rfl) (own_w hw 120 rfl) (notFace_of_selects (args := #[]) (mvT hZ176 (own_w hw 122 rfl))) (own_w hw 122 rfl) (own_w hw 121 rfl) (own_w hw 110 rfl) (own_w hw 123 rfl) (by decide) rfl C270 (rmTe l Z a0 hw a189 a230 (c0.toInt8.toInt32) (c1.toInt8.toInt32) (d0.toInt8.toInt32) (d1.toInt8.toInt32) T258.heap n0 Z274 C259 cs SC hcs a52 a112 a66 a131 t85 t155 kb85 kb155 x2 x3 x4 x5 C270 C271 C272 C260 C263 C264 A258 B258_address B258_ticket C265 C268 C269 C262 C267 (0 : Int32) (Or.inl rfl) (own_F (fun q => hc285 (own_inj hc1.1.2.1 hd1.1.2.1 q.1.1.2)))) (by decide) (by decide) (by decide) (by decide) rfl (by rw [hml]; rfl) (argsL := [(.ref a230)]) (rest := []) rfl (lenOf pd_8 rfl) rfl (by show 2 * 0 + _ ≤ _; exact Nat.le_of_eq rfl) (hb hby at_238) ?_
            intro v294 T294 L294 X294 hQ294
            obtain ⟨rfl, N294q, e294⟩ := hQ294
            have N294 := Fr.app N258 N294q
            show Goes p e below _ T294 (mkF m 241 #[.val (.int x0), .val (.int x1), .val (.long x2), .second, .val (.long x3), .second, .val (.long x4), .second, .val (.long x5), .second, .val (.int c0), .val (.int c1), .val (.int d0), .val (.int d1), .val (.ref a5), .val (.ref a25), .val (.ref a52), .val (.ref a112), .val (.ref a189), .val (.ref a230), .val (.int ((x1.toUInt32 >>> ((16 : Int32) &&& 31).toUInt32).toInt32 &&& (3 : Int32))), .val (.int (0 : Int32))] [(.int (0 : Int32))])
            refine Goes.on (T' := T294) (g' := (mkF m 250 #[.val (.int x0), .val (.int x1), .val (.long x2), .second, .val (.long x3), .second, .val (.long x4), .second, .val (.long x5), .second, .val (.int c0), .val (.int c1), .val (.int d0), .val (.int d1), .val (.ref a5), .val (.ref a25), .val (.ref a52), .val (.ref a112), .val (.ref a189), .val (.ref a230), .val (.int ((x1.toUInt32 >>> ((16 : Int32) &&& 31).toUInt32).toInt32 &&& (3 : Int32))), .val (.int (0 : Int32))] [(.ref a189), (.ref a230)])) (fun _ k => XS.iload X294.here hx rfl (hb hby at_241) rfl (XS.icmpNo X294.here hx rfl (hb hby at_243) rfl (XT.ii_ne_f (by decide)) (XS.aload X294.here hx rfl (hb hby at_246) rfl rfl (XS.aload X294.here hx rfl (hb hby at_248) rfl rfl k)))) ?_
            refine Goes.callV X294 hx hZ176 0 hown176 (own_w hw 119 rfl) (own_w hw 120 rfl) (notFace_of_selects (args := #[]) (mvT hZ176 (own_w hw 122 rfl))) (own_w hw 122 rfl) (own_w hw 121 rfl) (own_w hw 110 rfl) (own_w hw 123 rfl) (by decide) e294 A258 (rmTe l Z a0 hw a230 a189 (d0.toInt8.toInt32) (d1.toInt8.toInt32) (c0.toInt8.toInt32) (c1.toInt8.toInt32) T258.heap n0 Z274 C259 cs SC hcs a112 a52 a131 a66 t155 t85 kb155 kb85 x3 x2 x5 x4 A258 B258_address B258_ticket C265 C268 C269 C270 C271 C272 C260 C263 C264 C267 C262 (0 : Int32) (Or.inl rfl) (own_F (fun q => hc285 ((own_inj hd1.1.2.1 hc1.1.2.1 q.1.1.2).symm)))) (by decide) (by decide) (by decide) (by decide) rfl (by rw [hml]; rfl) (argsL := [(.ref a189)]) (rest := []) rfl (lenOf pd_8 rfl) rfl (by show 2 * 0 + _ ≤ _; exact Nat.le_of_eq rfl) (hb hby at_250) ?_
            intro v295 T295 L295 X295 hQ295
            obtain ⟨rfl, N295q, e295⟩ := hQ295
            have N295 := Fr.app N294 N295q
            show Goes p e below _ T295 (mkF m 253 #[.val (.int x0), .val (.int x1), .val (.long x2), .second, .val (.long x3), .second, .val (.long x4), .second, .val (.long x5), .second, .val (.int c0), .val (.int c1), .val (.int d0), .val (.int d1), .val (.ref a5), .val (.ref a25), .val (.ref a52), .val (.ref a112), .val (.ref a189), .val (.ref a230), .val (.int ((x1.toUInt32 >>> ((16 : Int32) &&& 31).toUInt32).toInt32 &&& (3 : Int32))), .val (.int (0 : Int32))] [(.int (0 : Int32))])
            refine Goes.on (T' := T295) (g' := (mkF m 263 #[.val (.int x0), .val (.int x1), .val (.long x2), .second, .val (.long x3), .second, .val (.long x4), .second, .val (.long x5), .second, .val (.int c0), .val (.int c1), .val (.int d0), .val (.int d1), .val (.ref a5), .val (.ref a25), .val (.ref a52), .val (.ref a112), .val (.ref a189), .val (.ref a230), .val (.int ((x1.toUInt32 >>> ((16 : Int32) &&& 31).toUInt32).toInt32 &&& (3 : Int32))), .val (.int (0 : Int32))] [(.int (1 : Int32))])) (fun _ k => XS.iload X295.here hx rfl (hb hby at_253) rfl (XS.icmpNo X295.here hx rfl (hb hby at_255) rfl (XT.ii_ne_f (by decide)) (XS.iconst X295.here hx rfl (hb hby at_258) (XS.goto X295.here hx rfl (pc0 := 259) (pc' := 263) rfl (hb hby at_259) (by decide) (by decide) k)))) ?_
            exact Goes.retBW X295 hS176 (by rw [e295]; exact Z275) hZ176 hEL (by rw [e295]; exact RR277) hx hlk hret (Or.inr rfl) (hb hby at_263) (by decide) (by decide) ⟨rfl, N295⟩
        · refine Goes.on (T' := T258) (g' := (mkF m 238 #[.val (.int x0), .val (.int x1), .val (.long x2), .second, .val (.long x3), .second, .val (.long x4), .second, .val (.long x5), .second, .val (.int c0), .val (.int c1), .val (.int d0), .val (.int d1), .val (.ref a5), .val (.ref a25), .val (.ref a52), .val (.ref a112), .val (.ref a189), .val (.ref a230), .val (.int ((x1.toUInt32 >>> ((16 : Int32) &&& 31).toUInt32).toInt32 &&& (3 : Int32))), .val (.int (0 : Int32))] [(.ref a230), (.ref a189)])) (fun _ k => XS.icmpYes X258.here hx rfl (pc0 := 202) (pc' := 231) rfl (hb hby at_202) rfl (XT.ii_ne_t hc284) (by decide) (by decide) (XS.iconst X258.here hx rfl (hb hby at_231) (XS.istore X258.here hx rfl (hb hby at_232) rfl (l' := #[.val (.int x0), .val (.int x1), .val (.long x2), .second, .val (.long x3), .second, .val (.long x4), .second, .val (.long x5), .second, .val (.int c0), .val (.int c1), .val (.int d0), .val (.int d1), .val (.ref a5), .val (.ref a25), .val (.ref a52), .val (.ref a112), .val (.ref a189), .val (.ref a230), .val (.int ((x1.toUInt32 >>> ((16 : Int32) &&& 31).toUInt32).toInt32 &&& (3 : Int32))), .val (.int (0 : Int32))]) rfl (XS.aload X258.here hx rfl (hb hby at_234) rfl rfl (XS.aload X258.here hx rfl (hb hby at_236) rfl rfl k))))) ?_
          refine Goes.callV X258 hx hZ176 0 hown176 (own_w hw 119 rfl) (own_w hw 120 rfl) (notFace_of_selects (args := #[]) (mvT hZ176 (own_w hw 122 rfl))) (own_w hw 122 rfl) (own_w hw 121 rfl) (own_w hw 110 rfl) (own_w hw 123 rfl) (by decide) rfl C270 (rmTe l Z a0 hw a189 a230 (c0.toInt8.toInt32) (c1.toInt8.toInt32) (d0.toInt8.toInt32) (d1.toInt8.toInt32) T258.heap n0 Z274 C259 cs SC hcs a52 a112 a66 a131 t85 t155 kb85 kb155 x2 x3 x4 x5 C270 C271 C272 C260 C263 C264 A258 B258_address B258_ticket C265 C268 C269 C262 C267 (0 : Int32) (Or.inl rfl) (own_F (fun q => hc284 (own_inj hc0.2.1 hd0.2.1 q.1.1.1)))) (by decide) (by decide) (by decide) (by decide) rfl (by rw [hml]; rfl) (argsL := [(.ref a230)]) (rest := []) rfl (lenOf pd_8 rfl) rfl (by show 2 * 0 + _ ≤ _; exact Nat.le_of_eq rfl) (hb hby at_238) ?_
          intro v296 T296 L296 X296 hQ296
          obtain ⟨rfl, N296q, e296⟩ := hQ296
          have N296 := Fr.app N258 N296q
          show Goes p e below _ T296 (mkF m 241 #[.val (.int x0), .val (.int x1), .val (.long x2), .second, .val (.long x3), .second, .val (.long x4), .second, .val (.long x5), .second, .val (.int c0), .val (.int c1), .val (.int d0), .val (.int d1), .val (.ref a5), .val (.ref a25), .val (.ref a52), .val (.ref a112), .val (.ref a189), .val (.ref a230), .val (.int ((x1.toUInt32 >>> ((16 : Int32) &&& 31).toUInt32).toInt32 &&& (3 : Int32))), .val (.int (0 : Int32))] [(.int (0 : Int32))])
          refine Goes.on (T' := T296) (g' := (mkF m 250 #[.val (.int x0), .val (.int x1), .val (.long x2), .second, .val (.long x3), .second, .val (.long x4), .second, .val (.long x5), .second, .val (.int c0), .val (.int c1), .val (.int d0), .val (.int d1), .val (.ref a5), .val (.ref a25), .val (.ref a52), .val (.ref a112), .val (.ref a189), .val (.ref a230), .val (.int ((x1.toUInt32 >>> ((16 : Int32) &&& 31).toUInt32).toInt32 &&& (3 : Int32))), .val (.int (0 : Int32))] [(.ref a189), (.ref a230)])) (fun _ k => XS.iload X296.here hx rfl (hb hby at_241) rfl (XS.icmpNo X296.here hx rfl (hb hby at_243) rfl (XT.ii_ne_f (by decide)) (XS.aload X296.here hx rfl (hb hby at_246) rfl rfl (XS.aload X296.here hx rfl (hb hby at_248) rfl rfl k)))) ?_
          refine Goes.callV X296 hx hZ176 0 hown176 (own_w hw 119 rfl) (own_w hw 120 rfl) (notFace_of_selects (args := #[]) (mvT hZ176 (own_w hw 122 rfl))) (own_w hw 122 rfl) (own_w hw 121 rfl) (own_w hw 110 rfl) (own_w hw 123 rfl) (by decide) e296 A258 (rmTe l Z a0 hw a230 a189 (d0.toInt8.toInt32) (d1.toInt8.toInt32) (c0.toInt8.toInt32) (c1.toInt8.toInt32) T258.heap n0 Z274 C259 cs SC hcs a112 a52 a131 a66 t155 t85 kb155 kb85 x3 x2 x5 x4 A258 B258_address B258_ticket C265 C268 C269 C270 C271 C272 C260 C263 C264 C267 C262 (0 : Int32) (Or.inl rfl) (own_F (fun q => hc284 ((own_inj hd0.2.1 hc0.2.1 q.1.1.1).symm)))) (by decide) (by decide) (by decide) (by decide) rfl (by rw [hml]; rfl) (argsL := [(.ref a189)]) (rest := []) rfl (lenOf pd_8 rfl) rfl (by show 2 * 0 + _ ≤ _; exact Nat.le_of_eq rfl) (hb hby at_250) ?_
          intro v297 T297 L297 X297 hQ297
          obtain ⟨rfl, N297q, e297⟩ := hQ297
          have N297 := Fr.app N296 N297q
          show Goes p e below _ T297 (mkF m 253 #[.val (.int x0), .val (.int x1), .val (.long x2), .second, .val (.long x3), .second, .val (.long x4), .second, .val (.long x5), .second, .val (.int c0), .val (.int c1), .val (.int d0), .val (.int d1), .val (.ref a5), .val (.ref a25), .val (.ref a52), .val (.ref a112), .val (.ref a189), .val (.ref a230), .val (.int ((x1.toUInt32 >>> ((16 : Int32) &&& 31).toUInt32).toInt32 &&& (3 : Int32))), .val (.int (0 : Int32))] [(.int (0 : Int32))])
          refine Goes.on (T' := T297) (g' := (mkF m 263 #[.val (.int x0), .val (.int x1), .val (.long x2), .second, .val (.long x3), .second, .val (.long x4), .second, .val (.long x5), .second, .val (.int c0), .val (.int c1), .val (.int d0), .val (.int d1), .val (.ref a5), .val (.ref a25), .val (.ref a52), .val (.ref a112), .val (.ref a189), .val (.ref a230), .val (.int ((x1.toUInt32 >>> ((16 : Int32) &&& 31).toUInt32).toInt32 &&& (3 : Int32))), .val (.int (0 : Int32))] [(.int (1 : Int32))])) (fun _ k => XS.iload X297.here hx rfl (hb hby at_253) rfl (XS.icmpNo X297.here hx rfl (hb hby at_255) rfl (XT.ii_ne_f (by decide)) (XS.iconst X297.here hx rfl (hb hby at_258) (XS.goto X297.here hx rfl (pc0 := 259) (pc' := 263) rfl (hb hby at_259) (by decide) (by decide) k)))) ?_
          exact Goes.retBW X297 hS176 (by rw [e297]; exact Z275) hZ176 hEL (by rw [e297]; exact RR277) hx hlk hret (Or.inr rfl) (hb hby at_263) (by decide) (by decide) ⟨rfl, N297⟩
set_option maxRecDepth 65536 in
set_option maxHeartbeats 40000000 in
theorem comes_1 {Post : Tables → Env → Array Value → State → Outcome → State → Prop} (hpost : ∀ tb e args s v u, (limb_1_1.after args s (.returned v) u = true ∧ limb_1_2.after args s (.returned v) u = true ∧ True) → ReturnedEndW s (.returned v) u (Jvm.fieldLocs frame_1_writes args s ++ Jvm.arrayLocs frame_1_arrays args s ++ Jvm.staticLocs frame_1_statics s) 32 2176 → Post tb e args s (.returned v) u) :
    ArmFor flags0 classFile x code maxLocals ret World_1 tables_1 room_1 Calls_1 rest_1 Pre_1 Post := by
  intro l hfl _ _ p e ha hc hk s m args below hf hA hF happ hP
  obtain ⟨hcalls, hrest, hpre⟩ := hP
  obtain ⟨-, -, -, hnamed, -, -, -, hat⟩ := (Spec.applies_iff hf).mp happ
  obtain ⟨hg, hn⟩ := and_e (Cond.before_iff.mp (show (Jvm.Cond.and given_1 narrow_1).before args s = true from hpre))
  obtain ⟨g0, r0⟩ := and_e hg
  obtain ⟨g1, r1⟩ := and_e r0
  obtain ⟨g2, r2⟩ := and_e r1
  obtain ⟨g3, r3⟩ := and_e r2
  obtain ⟨g4, r4⟩ := and_e r3
  obtain ⟨g5, r5⟩ := and_e r4
  obtain ⟨w0, w1, w2, w3, w4, w5, rfl⟩ : ∃ w0 w1 w2 w3 w4 w5 : Value, args = #[w0, w1, w2, w3, w4, w5] := by
    have hs : args.size = 6 := by simpa [Cond.value, given_1] using g0
    obtain ⟨L⟩ := args
    match L, hs with
    | [w0, w1, w2, w3, w4, w5], _ => exact ⟨w0, w1, w2, w3, w4, w5, rfl⟩
  have hw := fun d (hd : d ∈ tables_1) => atoms_spec (ws := Jvm.Cond.code x code maxLocals ret :: tables_1) hat d (List.mem_cons_of_mem _ hd)
  have hfit : Fit s := fun {y c} hc i hi => by
    obtain ⟨ha, rfl⟩ := Array.getElem?_eq_some_iff.mp hc
    have q := List.all_eq_true.mp ((Array.all_eq_true_iff_forall_mem.mp hF) _ (Array.getElem_mem ha)) i (List.mem_range.mpr hi)
    simpa [Array.getElem?_eq_getElem hi] using q
  obtain ⟨i0, ei0⟩ := is_v g1
  obtain rfl : w0 = (.int i0) := Option.some.inj ei0
  obtain ⟨i1, ei1⟩ := is_v g2
  obtain rfl : w1 = (.int i1) := Option.some.inj ei1
  obtain ⟨i2, ei2⟩ := isL_v g3
  obtain rfl : w2 = (.long i2) := Option.some.inj ei2
  obtain ⟨i3, ei3⟩ := isL_v g4
  obtain rfl : w3 = (.long i3) := Option.some.inj ei3
  obtain ⟨i4, ei4⟩ := isL_v g5
  obtain rfl : w4 = (.long i4) := Option.some.inj ei4
  obtain ⟨i5, ei5⟩ := isL_v r5
  obtain rfl : w5 = (.long i5) := Option.some.inj ei5
  obtain ⟨hsets, hown0⟩ := atoms_of _ (rest_1_c_eq ▸ (show rest_1_c.before _ s = true from hrest))
  obtain ⟨cs, ecs⟩ := is_v (Cond.before_iff.mp (hsets _ (List.mem_of_getElem? (i := 1) rfl)))
  have SC := Sta.start ecs (Or.inl (hsets _ (List.mem_of_getElem? (i := 0) rfl)))
  have nz := not_v (Cond.before_iff.mp (hsets _ (List.mem_of_getElem? (i := 2) rfl)))
  have hcs : ¬ cs = (0 : Int32) := gotF (Cond.eq_ints ecs (Term.int_eval (0))) nz
  have hCH : CHv s consts_1 s.vm s.heap := CHv.start (own_EW hw) (fun p hp => hcalls.1 p hp) (hsets _ (List.mem_of_getElem? (i := 2) rfl)) (own_w hw 29 rfl) (own_w hw 12 rfl)
  obtain ⟨n, o, h1, h2, h3, _, L, rfl, ⟨rfl, N⟩, -, hq⟩ := rm0 l s _ hw i0 i1 i2 i3 i4 i5 s.heap s.heap.size (Nat.le_refl _) (own_EW hw) (Old.start s) cs SC hcs p e ha hc hk s m _ below hf ((Spec.applies_iff_loose hf).mp happ).1 ⟨rfl, State.Warmed39.refl s, rfl, hCH⟩ trivial
  refine ⟨n, _, h1, h2, h3, hpost _ _ _ _ _ _ ⟨Cond.after_iff.mpr rfl, Cond.after_iff.mpr (eq_i res_at (Term.int_eval (1)) rfl), trivial⟩ ⟨hq.1, hq.2.1, hq.2.2.1, (hq.2.2.2.sift fun y hy => Or.inr (N y hy)).mono (by decide) (by decide)⟩⟩
theorem main_1_1 : Claimed_1_1 := comes_1 fun _ _ _ _ _ _ h hF => ⟨h.1, hF⟩
theorem main_1_2 : Claimed_1_2 := comes_1 fun _ _ _ _ _ _ h hF => ⟨h.2.1, hF⟩

end Jvm.Pilot.@@N@@
namespace Jvm.Pilot.@@N@@
open Jvm Jvm.ClassFile Sem Op Lib Jvm.Free Jvm.Stand Jvm.Pilot.@@N@@.Jvm.D
/-! MADE BY PROGRAM (witnessworld.py) out of the Statement's table words and the real class files: 22 classes; the members and pool entries that the words name. The judged class is class 1, her method 3. -/
namespace start1
open Jvm.ClassFile
def u (s : String) : CpInfo := .utf8 (stringToUtf16 s)
/-- a pool by its gaps: so many unusable entries, then the entry; so many at the end -/
def gap : Nat → List CpInfo → List CpInfo
  | 0, r => r
  | n + 1, r => .unusable :: gap n r
def poolList (es : List (Nat × CpInfo)) (last : Nat) : List CpInfo := es.foldr (fun e r => gap e.1 (e.2 :: r)) (gap last [])
def pool (es : List (Nat × CpInfo)) (last : Nat) : Array CpInfo := ⟨poolList es last⟩
def fileOf (pool : Array CpInfo) (this : Nat) (attrs : Array Attribute := #[]) (ms : Array MethodInfo := #[]) (fl : Nat := 33) (sup : Nat := 0) (ifs : Array Nat := #[]) (fds : Array FieldInfo := #[]) : ClassFile where
  minorVersion := 0
  majorVersion := 65
  constantPool := pool
  accessFlags := fl
  thisClass := this
  superClass := sup
  interfaces := ifs
  fields := fds
  methods := ms
  attributes := attrs
def plain (name : String) (sup : Option ClassId) : Class where
  name := name
  kind := .ordinary
  loader := none
  accessFlags := 33
  super := sup
  interfaces := #[]
  cf := none
  fields := #[]
  methods := #[]
  instanceTypes := #[]
  staticTypes := #[]
  resolved := #[]
  callSites := []
  init := .initialized
  statics := none
  mirror := none

def pool0 : Array CpInfo := pool [(5, u "<init>"), (0, u "()V"), (1, .class_ 10), (1, u "java/lang/Object")] 113

def k0c0 : Code := { maxStack := 0, maxLocals := 1, code := object_method_1_code, exceptionTable := #[], attributes := #[] }
def k0m0 : Method := { name := "<init>", desc := "()V", sig := { parameters := [], returnType := none }, accessFlags := 1, code := some k0c0 }
/-- java/lang/Object -/
def k0 : Class := { plain "java/lang/Object" none with
  accessFlags := 33
  interfaces := #[]
  cf := some (fileOf pool0 8 #[] #[{ accessFlags := 1, nameIndex := 5, descriptorIndex := 6, attributes := #[] }] 33 0 #[] #[])
  fields := #[]
  methods := #[k0m0]
  instanceTypes := #[]
  staticTypes := #[]
  resolved := Array.replicate 124 none
  statics := none }

def pool1 : Array CpInfo := pool [(2, .class_ 4), (1, u "java/lang/Object"), (0, u "<init>"), (0, u "()V"), (0, .methodref 8 9), (0, .class_ 10), (0, .nameAndType 11 12), (0, u "com/example/narada/narada/TransferEqualsPinLaw"), (0, u "ch"), (0, u "(I)C"), (0, .methodref 8 14), (0, .nameAndType 15 16), (0, u "second"), (0, u "(CI)C"), (0, .class_ 18), (0, u "com/example/narada/narada/ObjectAddress"), (0, .class_ 20), (0, u "java/lang/String"), (0, .methodref 19 22), (0, .nameAndType 5 23), (0, u "([C)V"), (0, .methodref 17 25), (0, .nameAndType 5 26), (0, u "(Ljava/lang/String;J)V"), (0, .class_ 28), (0, u "com/example/narada/narada/Transfer"), (0, .methodref 27 30), (0, .nameAndType 5 31), (0, u "(Lcom/example/narada/narada/ObjectAddress;J)V"), (0, .methodref 27 33), (0, .nameAndType 34 35), (0, u "equals"), (0, u "(Ljava/lang/Object;)Z"), (3, u "law"), (0, u "(IIJJJJ)Z")] 4

def k1m0 : Method := { name := "<init>", desc := "()V", sig := { parameters := [], returnType := none }, accessFlags := 1, code := none }
def k1c1 : Code := { maxStack := 2, maxLocals := 2, code := method_2_code, exceptionTable := #[], attributes := #[] }
def k1m1 : Method := { name := "ch", desc := "(I)C", sig := { parameters := [.int], returnType := some .char }, accessFlags := 10, code := some k1c1 }
def k1c2 : Code := { maxStack := 2, maxLocals := 3, code := method_3_code, exceptionTable := #[], attributes := #[] }
def k1m2 : Method := { name := "second", desc := "(CI)C", sig := { parameters := [.char, .int], returnType := some .char }, accessFlags := 10, code := some k1c2 }
def k1c3 : Code := { maxStack := 5, maxLocals := 22, code := code, exceptionTable := #[], attributes := #[] }
def k1m3 : Method := { name := "law", desc := "(IIJJJJ)Z", sig := { parameters := [.int, .int, .long, .long, .long, .long], returnType := some .boolean }, accessFlags := 9, code := some k1c3 }
/-- com/example/narada/narada/TransferEqualsPinLaw -/
def k1 : Class := { plain "com/example/narada/narada/TransferEqualsPinLaw" (some 0) with
  accessFlags := 49
  interfaces := #[]
  cf := some (fileOf pool1 8 #[] #[{ accessFlags := 1, nameIndex := 5, descriptorIndex := 6, attributes := #[] }, { accessFlags := 10, nameIndex := 11, descriptorIndex := 12, attributes := #[] }, { accessFlags := 10, nameIndex := 15, descriptorIndex := 16, attributes := #[] }, { accessFlags := 9, nameIndex := 39, descriptorIndex := 40, attributes := #[] }] 49 2 #[] #[])
  fields := #[]
  methods := #[k1m0, k1m1, k1m2, k1m3]
  instanceTypes := #[]
  staticTypes := #[]
  resolved := Array.replicate 45 none
  statics := none }

def pool2 : Array CpInfo := pool [(1, .methodref 2 3), (0, .class_ 4), (0, .nameAndType 5 6), (0, u "java/lang/Object"), (0, u "<init>"), (0, u "()V"), (0, .methodref 8 9), (0, .class_ 10), (0, .nameAndType 11 12), (0, u "java/lang/String"), (0, u "isEmpty"), (0, u "()Z"), (0, .string 14), (0, u "."), (0, .methodref 8 16), (0, .nameAndType 17 18), (0, u "equals"), (0, u "(Ljava/lang/Object;)Z"), (0, .string 20), (0, u ".."), (0, .methodref 8 22), (0, .nameAndType 23 24), (0, u "indexOf"), (0, u "(I)I"), (9, .fieldref 35 36), (0, .class_ 37), (0, .nameAndType 38 39), (0, u "com/example/narada/narada/ObjectAddress"), (0, u "endpoint"), (0, u "Ljava/lang/String;"), (0, .fieldref 35 41), (0, .nameAndType 42 43), (0, u "object"), (0, u "J"), (15, u "(Ljava/lang/String;J)V")] 27

def k2c0 : Code := { maxStack := 3, maxLocals := 4, code := prog_13_method_1_code, exceptionTable := #[], attributes := #[] }
def k2m0 : Method := { name := "<init>", desc := "(Ljava/lang/String;J)V", sig := { parameters := [(.object "java/lang/String"), .long], returnType := none }, accessFlags := 0, code := some k2c0 }
def k2c1 : Code := { maxStack := 4, maxLocals := 2, code := prog_13_method_4_code, exceptionTable := #[], attributes := #[] }
def k2m1 : Method := { name := "equals", desc := "(Ljava/lang/Object;)Z", sig := { parameters := [(.object "java/lang/Object")], returnType := some .boolean }, accessFlags := 1, code := some k2c1 }
/-- com/example/narada/narada/ObjectAddress -/
def k2 : Class := { plain "com/example/narada/narada/ObjectAddress" (some 0) with
  accessFlags := 32
  interfaces := #[]
  cf := some (fileOf pool2 35 #[] #[{ accessFlags := 0, nameIndex := 5, descriptorIndex := 59, attributes := #[] }, { accessFlags := 1, nameIndex := 17, descriptorIndex := 18, attributes := #[] }] 32 2 #[] #[{ accessFlags := 18, nameIndex := 38, descriptorIndex := 39, attributes := #[] }, { accessFlags := 18, nameIndex := 42, descriptorIndex := 43, attributes := #[] }])
  fields := #[{ name := "endpoint", type := (.object "java/lang/String"), accessFlags := 18, slot := 0, constantValue := 0 }, { name := "object", type := .long, accessFlags := 18, slot := 1, constantValue := 0 }]
  methods := #[k2m0, k2m1]
  instanceTypes := #[(.object "java/lang/String"), .long]
  staticTypes := #[]
  resolved := Array.replicate 87 none
  statics := none }

def pool3 : Array CpInfo := pool [(1, .class_ 2), (0, u "java/io/Serializable"), (0, .class_ 4), (0, u "java/lang/Object")] 2

/-- java/io/Serializable -/
def k3 : Class := { plain "java/io/Serializable" (some 0) with
  accessFlags := 1537
  interfaces := #[]
  cf := some (fileOf pool3 1 #[] #[] 1537 3 #[] #[])
  fields := #[]
  methods := #[]
  instanceTypes := #[]
  staticTypes := #[]
  resolved := Array.replicate 7 none
  statics := none }

def pool4 : Array CpInfo := pool [(1, .class_ 2), (0, u "java/lang/Comparable"), (0, .class_ 4), (0, u "java/lang/Object")] 7

/-- java/lang/Comparable -/
def k4 : Class := { plain "java/lang/Comparable" (some 0) with
  accessFlags := 1537
  interfaces := #[]
  cf := some (fileOf pool4 1 #[] #[] 1537 3 #[] #[])
  fields := #[]
  methods := #[]
  instanceTypes := #[]
  staticTypes := #[]
  resolved := Array.replicate 12 none
  statics := none }

def pool5 : Array CpInfo := pool [(2, .class_ 4), (1, u "java/lang/CharSequence"), (42, .class_ 48), (0, u "java/lang/CharSequence$1CodePointIterator"), (10, .class_ 60), (0, u "java/lang/CharSequence$1CharIterator"), (5, .class_ 67), (0, u "java/lang/Object")] 63

/-- java/lang/CharSequence -/
def k5 : Class := { plain "java/lang/CharSequence" (some 0) with
  accessFlags := 1537
  interfaces := #[]
  cf := some (fileOf pool5 2 #[.nestMembers #[47, 59]] #[] 1537 66 #[] #[])
  fields := #[]
  methods := #[]
  instanceTypes := #[]
  staticTypes := #[]
  resolved := Array.replicate 131 none
  statics := none }

def pool6 : Array CpInfo := pool [(1, .class_ 2), (0, u "java/lang/constant/Constable"), (0, .class_ 4), (0, u "java/lang/Object")] 6

/-- java/lang/constant/Constable -/
def k6 : Class := { plain "java/lang/constant/Constable" (some 0) with
  accessFlags := 1537
  interfaces := #[]
  cf := some (fileOf pool6 1 #[] #[] 1537 3 #[] #[])
  fields := #[]
  methods := #[]
  instanceTypes := #[]
  staticTypes := #[]
  resolved := Array.replicate 11 none
  statics := none }

def pool7 : Array CpInfo := pool [(1, .class_ 2), (0, u "java/lang/constant/ConstantDesc"), (0, .class_ 4), (0, u "java/lang/Object")] 32

/-- java/lang/constant/ConstantDesc -/
def k7 : Class := { plain "java/lang/constant/ConstantDesc" (some 0) with
  accessFlags := 1537
  interfaces := #[]
  cf := some (fileOf pool7 1 #[] #[] 1537 3 #[] #[])
  fields := #[]
  methods := #[]
  instanceTypes := #[]
  staticTypes := #[]
  resolved := Array.replicate 37 none
  statics := none }

def pool8 : Array CpInfo := pool [(1, .methodref 2 3), (0, .class_ 4), (0, .nameAndType 5 6), (0, u "java/lang/Object"), (0, u "<init>"), (0, u "()V"), (2, .fieldref 10 11), (0, .class_ 12), (0, .nameAndType 13 14), (0, u "java/lang/String"), (0, u "value"), (0, u "[B"), (0, .fieldref 10 16), (0, .nameAndType 17 18), (0, u "coder"), (0, u "B"), (2, u "hash"), (0, u "I"), (2, u "hashIsZero"), (0, u "Z"), (0, .methodref 10 28), (0, .nameAndType 5 29), (0, u "([CIILjava/lang/Void;)V"), (8, .fieldref 10 39), (0, .nameAndType 40 26), (0, u "COMPACT_STRINGS"), (1, .class_ 44), (1, u "java/lang/StringUTF16"), (0, u "compress"), (1, .methodref 42 48), (0, .nameAndType 49 50), (0, u "coderFromArrayLen"), (0, u "([BI)B"), (56, .class_ 109), (1, u "java/lang/StringLatin1"), (32, u "()Z"), (34, .methodref 42 178), (0, .nameAndType 45 179), (0, u "([CII)[B"), (154, u "()I"), (0, .methodref 10 336), (0, .nameAndType 17 337), (0, u "()B"), (154, .methodref 10 493), (0, .nameAndType 494 142), (0, u "isLatin1"), (10, .methodref 10 506), (0, .nameAndType 507 334), (0, u "length"), (33, .methodref 107 542), (0, .nameAndType 543 544), (0, u "equals"), (0, u "([B[B)Z"), (28, u "(Ljava/lang/Object;)Z"), (1, .class_ 576), (0, u "java/lang/CharSequence"), (22, u "CASE_INSENSITIVE_ORDER"), (0, u "Ljava/util/Comparator;"), (32, .methodref 10 634), (0, .nameAndType 635 636), (0, u "indexOf"), (0, u "(II)I"), (0, .methodref 107 638), (0, .nameAndType 635 639), (0, u "([BIII)I"), (52, u "isEmpty"), (72, u "(I)I"), (244, u "([C)V"), (90, u "serialPersistentFields"), (0, u "[Ljava/io/ObjectStreamField;"), (0, .class_ 1104), (0, u "java/lang/String$CaseInsensitiveComparator"), (1, .class_ 1107), (0, u "java/io/Serializable"), (0, .class_ 1109), (0, u "java/lang/Comparable"), (0, .class_ 1111), (0, u "java/lang/constant/Constable"), (0, .class_ 1113), (0, u "java/lang/constant/ConstantDesc"), (2, u "serialVersionUID"), (0, u "J"), (3, u "REPL"), (0, u "C"), (2, u "LATIN1"), (1, u "UTF16")] 323

def k8m0 : Method := { name := "<init>", desc := "()V", sig := { parameters := [], returnType := none }, accessFlags := 1, code := none }
def k8c1 : Code := { maxStack := 5, maxLocals := 2, code := jdk_42_method_3_code, exceptionTable := #[], attributes := #[] }
def k8m1 : Method := { name := "<init>", desc := "([C)V", sig := { parameters := [(.array .char)], returnType := none }, accessFlags := 1, code := some k8c1 }
def k8c2 : Code := { maxStack := 2, maxLocals := 1, code := jdk_42_method_54_code, exceptionTable := #[], attributes := #[] }
def k8m2 : Method := { name := "length", desc := "()I", sig := { parameters := [], returnType := some .int }, accessFlags := 1, code := some k8c2 }
def k8c3 : Code := { maxStack := 1, maxLocals := 1, code := jdk_42_method_55_code, exceptionTable := #[], attributes := #[] }
def k8m3 : Method := { name := "isEmpty", desc := "()Z", sig := { parameters := [], returnType := some .boolean }, accessFlags := 1, code := some k8c3 }
def k8c4 : Code := { maxStack := 2, maxLocals := 3, code := jdk_42_method_66_code, exceptionTable := #[], attributes := #[] }
def k8m4 : Method := { name := "equals", desc := "(Ljava/lang/Object;)Z", sig := { parameters := [(.object "java/lang/Object")], returnType := some .boolean }, accessFlags := 1, code := some k8c4 }
def k8c5 : Code := { maxStack := 3, maxLocals := 2, code := jdk_42_method_79_code, exceptionTable := #[], attributes := #[] }
def k8m5 : Method := { name := "indexOf", desc := "(I)I", sig := { parameters := [.int], returnType := some .int }, accessFlags := 1, code := some k8c5 }
def k8c6 : Code := { maxStack := 4, maxLocals := 3, code := jdk_42_method_80_code, exceptionTable := #[], attributes := #[] }
def k8m6 : Method := { name := "indexOf", desc := "(II)I", sig := { parameters := [.int, .int], returnType := some .int }, accessFlags := 1, code := some k8c6 }
def k8c7 : Code := { maxStack := 4, maxLocals := 6, code := jdk_42_method_149_code, exceptionTable := #[], attributes := #[] }
def k8m7 : Method := { name := "<init>", desc := "([CIILjava/lang/Void;)V", sig := { parameters := [(.array .char), .int, .int, (.object "java/lang/Void")], returnType := none }, accessFlags := 2, code := some k8c7 }
def k8c8 : Code := { maxStack := 1, maxLocals := 1, code := jdk_42_method_152_code, exceptionTable := #[], attributes := #[] }
def k8m8 : Method := { name := "coder", desc := "()B", sig := { parameters := [], returnType := some .byte }, accessFlags := 0, code := some k8c8 }
def k8c9 : Code := { maxStack := 1, maxLocals := 1, code := jdk_42_method_154_code, exceptionTable := #[], attributes := #[] }
def k8m9 : Method := { name := "isLatin1", desc := "()Z", sig := { parameters := [], returnType := some .boolean }, accessFlags := 0, code := some k8c9 }
/-- java/lang/String -/
def k8 : Class := { plain "java/lang/String" (some 0) with
  accessFlags := 49
  interfaces := #[3, 4, 5, 6, 7]
  cf := some (fileOf pool8 10 #[.nestMembers #[1103]] #[{ accessFlags := 1, nameIndex := 5, descriptorIndex := 6, attributes := #[] }, { accessFlags := 1, nameIndex := 5, descriptorIndex := 1010, attributes := #[] }, { accessFlags := 1, nameIndex := 507, descriptorIndex := 334, attributes := #[] }, { accessFlags := 1, nameIndex := 692, descriptorIndex := 142, attributes := #[] }, { accessFlags := 1, nameIndex := 543, descriptorIndex := 573, attributes := #[] }, { accessFlags := 1, nameIndex := 635, descriptorIndex := 765, attributes := #[] }, { accessFlags := 1, nameIndex := 635, descriptorIndex := 636, attributes := #[] }, { accessFlags := 2, nameIndex := 5, descriptorIndex := 29, attributes := #[] }, { accessFlags := 0, nameIndex := 17, descriptorIndex := 337, attributes := #[] }, { accessFlags := 0, nameIndex := 494, descriptorIndex := 142, attributes := #[] }] 49 2 #[1106, 1108, 575, 1110, 1112] #[{ accessFlags := 18, nameIndex := 13, descriptorIndex := 14, attributes := #[] }, { accessFlags := 18, nameIndex := 17, descriptorIndex := 18, attributes := #[] }, { accessFlags := 2, nameIndex := 21, descriptorIndex := 22, attributes := #[] }, { accessFlags := 2, nameIndex := 25, descriptorIndex := 26, attributes := #[] }, { accessFlags := 26, nameIndex := 1116, descriptorIndex := 1117, attributes := #[] }, { accessFlags := 24, nameIndex := 40, descriptorIndex := 26, attributes := #[] }, { accessFlags := 26, nameIndex := 1101, descriptorIndex := 1102, attributes := #[] }, { accessFlags := 26, nameIndex := 1121, descriptorIndex := 1122, attributes := #[] }, { accessFlags := 25, nameIndex := 599, descriptorIndex := 600, attributes := #[] }, { accessFlags := 24, nameIndex := 1125, descriptorIndex := 18, attributes := #[] }, { accessFlags := 24, nameIndex := 1127, descriptorIndex := 18, attributes := #[] }])
  fields := #[{ name := "value", type := (.array .byte), accessFlags := 18, slot := 0, constantValue := 0 }, { name := "coder", type := .byte, accessFlags := 18, slot := 1, constantValue := 0 }, { name := "hash", type := .int, accessFlags := 2, slot := 2, constantValue := 0 }, { name := "hashIsZero", type := .boolean, accessFlags := 2, slot := 3, constantValue := 0 }, { name := "serialVersionUID", type := .long, accessFlags := 26, slot := 0, constantValue := 0 }, { name := "COMPACT_STRINGS", type := .boolean, accessFlags := 24, slot := 1, constantValue := 0 }, { name := "serialPersistentFields", type := (.array (.object "java/io/ObjectStreamField")), accessFlags := 26, slot := 2, constantValue := 0 }, { name := "REPL", type := .char, accessFlags := 26, slot := 3, constantValue := 0 }, { name := "CASE_INSENSITIVE_ORDER", type := (.object "java/util/Comparator"), accessFlags := 25, slot := 4, constantValue := 0 }, { name := "LATIN1", type := .byte, accessFlags := 24, slot := 5, constantValue := 0 }, { name := "UTF16", type := .byte, accessFlags := 24, slot := 6, constantValue := 0 }]
  methods := #[k8m0, k8m1, k8m2, k8m3, k8m4, k8m5, k8m6, k8m7, k8m8, k8m9]
  instanceTypes := #[(.array .byte), .byte, .int, .boolean]
  staticTypes := #[.long, .boolean, (.array (.object "java/io/ObjectStreamField")), .char, (.object "java/util/Comparator"), .byte, .byte]
  resolved := Array.replicate 1451 none
  statics := some 0 }

def pool9 : Array CpInfo := pool [(6, .class_ 8), (1, u "java/lang/Object"), (0, u "<init>"), (0, u "()V"), (1, .class_ 14), (1, u "java/lang/StringUTF16"), (31, u "$assertionsDisabled"), (0, u "Z"), (13, u "HI_BYTE_SHIFT"), (0, u "I"), (2, u "LO_BYTE_SHIFT"), (49, .methodref 12 116), (0, .nameAndType 117 118), (0, u "compress"), (0, u "([CI[BII)I"), (3, u "([CII)[B"), (138, u "coderFromArrayLen"), (0, u "([BI)B"), (106, .class_ 371), (1, u "java/lang/StringUTF16$LinesSpliterator"), (58, u "MAX_LENGTH"), (196, .class_ 628), (0, u "java/lang/StringUTF16$CodePointsSpliterator"), (0, .class_ 630), (0, u "java/lang/StringUTF16$CharsSpliterator")] 4

def k9m0 : Method := { name := "<init>", desc := "()V", sig := { parameters := [], returnType := none }, accessFlags := 0, code := none }
def k9c1 : Code := { maxStack := 2, maxLocals := 2, code := jdk_52_method_15_code, exceptionTable := #[], attributes := #[] }
def k9m1 : Method := { name := "coderFromArrayLen", desc := "([BI)B", sig := { parameters := [(.array .byte), .int], returnType := some .byte }, accessFlags := 8, code := some k9c1 }
def k9c2 : Code := { maxStack := 5, maxLocals := 6, code := jdk_52_method_16_code, exceptionTable := #[], attributes := #[] }
def k9m2 : Method := { name := "compress", desc := "([CII)[B", sig := { parameters := [(.array .char), .int, .int], returnType := some (.array .byte) }, accessFlags := 9, code := some k9c2 }
def k9c3 : Code := { maxStack := 3, maxLocals := 7, code := jdk_52_method_21_code, exceptionTable := #[], attributes := #[] }
def k9m3 : Method := { name := "compress", desc := "([CI[BII)I", sig := { parameters := [(.array .char), .int, (.array .byte), .int, .int], returnType := some .int }, accessFlags := 9, code := some k9c3 }
/-- java/lang/StringUTF16 -/
def k9 : Class := { plain "java/lang/StringUTF16" (some 0) with
  accessFlags := 48
  interfaces := #[]
  cf := some (fileOf pool9 12 #[.nestMembers #[627, 629, 369]] #[{ accessFlags := 0, nameIndex := 9, descriptorIndex := 10, attributes := #[] }, { accessFlags := 8, nameIndex := 261, descriptorIndex := 262, attributes := #[] }, { accessFlags := 9, nameIndex := 117, descriptorIndex := 122, attributes := #[] }, { accessFlags := 9, nameIndex := 117, descriptorIndex := 118, attributes := #[] }] 48 6 #[] #[{ accessFlags := 26, nameIndex := 61, descriptorIndex := 62, attributes := #[] }, { accessFlags := 26, nameIndex := 65, descriptorIndex := 62, attributes := #[] }, { accessFlags := 24, nameIndex := 430, descriptorIndex := 62, attributes := #[] }, { accessFlags := 4120, nameIndex := 46, descriptorIndex := 47, attributes := #[] }])
  fields := #[{ name := "HI_BYTE_SHIFT", type := .int, accessFlags := 26, slot := 0, constantValue := 0 }, { name := "LO_BYTE_SHIFT", type := .int, accessFlags := 26, slot := 1, constantValue := 0 }, { name := "MAX_LENGTH", type := .int, accessFlags := 24, slot := 2, constantValue := 0 }, { name := "$assertionsDisabled", type := .boolean, accessFlags := 4120, slot := 3, constantValue := 0 }]
  methods := #[k9m0, k9m1, k9m2, k9m3]
  instanceTypes := #[]
  staticTypes := #[.int, .int, .int, .boolean]
  resolved := Array.replicate 635 none
  statics := none }

def pool10 : Array CpInfo := pool [(4, .class_ 6), (1, u "java/lang/Object"), (0, u "<init>"), (0, u "()V"), (5, .class_ 16), (1, u "java/lang/StringLatin1"), (21, .methodref 39 40), (0, .class_ 41), (0, .nameAndType 42 43), (0, u "java/lang/Math"), (0, u "min"), (0, u "(II)I"), (44, .methodref 14 89), (0, .nameAndType 90 91), (0, u "canEncode"), (0, u "(I)Z"), (0, .methodref 39 93), (0, .nameAndType 94 43), (0, u "max"), (0, .methodref 14 96), (0, .nameAndType 97 98), (0, u "indexOfChar"), (0, u "([BIII)I"), (2, u "indexOf"), (19, u "$assertionsDisabled"), (0, u "Z"), (98, .class_ 223), (1, u "java/lang/StringLatin1$LinesSpliterator"), (57, u "equals"), (0, u "([B[B)Z"), (107, .class_ 391), (0, u "java/lang/StringLatin1$CharsSpliterator")] 3

def k10m0 : Method := { name := "<init>", desc := "()V", sig := { parameters := [], returnType := none }, accessFlags := 0, code := none }
def k10c1 : Code := { maxStack := 2, maxLocals := 1, code := jdk_43_method_4_code, exceptionTable := #[], attributes := #[] }
def k10m1 : Method := { name := "canEncode", desc := "(I)Z", sig := { parameters := [.int], returnType := some .boolean }, accessFlags := 9, code := some k10c1 }
def k10c2 : Code := { maxStack := 3, maxLocals := 3, code := jdk_43_method_13_code, exceptionTable := #[], attributes := #[] }
def k10m2 : Method := { name := "equals", desc := "([B[B)Z", sig := { parameters := [(.array .byte), (.array .byte)], returnType := some .boolean }, accessFlags := 9, code := some k10c2 }
def k10c3 : Code := { maxStack := 4, maxLocals := 4, code := jdk_43_method_22_code, exceptionTable := #[], attributes := #[] }
def k10m3 : Method := { name := "indexOf", desc := "([BIII)I", sig := { parameters := [(.array .byte), .int, .int, .int], returnType := some .int }, accessFlags := 9, code := some k10c3 }
def k10c4 : Code := { maxStack := 2, maxLocals := 6, code := jdk_43_method_23_code, exceptionTable := #[], attributes := #[] }
def k10m4 : Method := { name := "indexOfChar", desc := "([BIII)I", sig := { parameters := [(.array .byte), .int, .int, .int], returnType := some .int }, accessFlags := 10, code := some k10c4 }
/-- java/lang/StringLatin1 -/
def k10 : Class := { plain "java/lang/StringLatin1" (some 0) with
  accessFlags := 48
  interfaces := #[]
  cf := some (fileOf pool10 14 #[.nestMembers #[390, 221]] #[{ accessFlags := 0, nameIndex := 7, descriptorIndex := 8, attributes := #[] }, { accessFlags := 9, nameIndex := 90, descriptorIndex := 91, attributes := #[] }, { accessFlags := 9, nameIndex := 281, descriptorIndex := 282, attributes := #[] }, { accessFlags := 9, nameIndex := 101, descriptorIndex := 98, attributes := #[] }, { accessFlags := 10, nameIndex := 97, descriptorIndex := 98, attributes := #[] }] 48 4 #[] #[{ accessFlags := 4120, nameIndex := 121, descriptorIndex := 122, attributes := #[] }])
  fields := #[{ name := "$assertionsDisabled", type := .boolean, accessFlags := 4120, slot := 0, constantValue := 0 }]
  methods := #[k10m0, k10m1, k10m2, k10m3, k10m4]
  instanceTypes := #[]
  staticTypes := #[.boolean]
  resolved := Array.replicate 395 none
  statics := none }

def pool11 : Array CpInfo := pool [(1, .class_ 2), (0, u "java/lang/Math"), (1, .class_ 6), (1, u "java/lang/Object"), (0, u "<init>"), (0, u "()V"), (89, .class_ 100), (1, u "java/lang/Math$RandomNumberGeneratorHolder"), (71, u "negativeZeroFloatBits"), (0, u "J"), (2, u "negativeZeroDoubleBits"), (21, u "max"), (2, u "min"), (43, u "$assertionsDisabled"), (0, u "Z"), (88, u "(II)I"), (2, u "twoToTheDoubleScaleDown"), (0, u "D"), (4, u "twoToTheDoubleScaleUp"), (9, u "E"), (3, u "PI"), (2, u "TAU"), (2, u "DEGREES_TO_RADIANS"), (0, u "RADIANS_TO_DEGREES")] 94

def k11m0 : Method := { name := "<init>", desc := "()V", sig := { parameters := [], returnType := none }, accessFlags := 2, code := none }
def k11c1 : Code := { maxStack := 2, maxLocals := 2, code := jdk_29_method_65_code, exceptionTable := #[], attributes := #[] }
def k11m1 : Method := { name := "max", desc := "(II)I", sig := { parameters := [.int, .int], returnType := some .int }, accessFlags := 9, code := some k11c1 }
def k11c2 : Code := { maxStack := 2, maxLocals := 2, code := jdk_29_method_69_code, exceptionTable := #[], attributes := #[] }
def k11m2 : Method := { name := "min", desc := "(II)I", sig := { parameters := [.int, .int], returnType := some .int }, accessFlags := 9, code := some k11c2 }
/-- java/lang/Math -/
def k11 : Class := { plain "java/lang/Math" (some 0) with
  accessFlags := 49
  interfaces := #[]
  cf := some (fileOf pool11 1 #[.nestMembers #[98]] #[{ accessFlags := 2, nameIndex := 7, descriptorIndex := 8, attributes := #[] }, { accessFlags := 9, nameIndex := 198, descriptorIndex := 335, attributes := #[] }, { accessFlags := 9, nameIndex := 201, descriptorIndex := 335, attributes := #[] }] 49 4 #[] #[{ accessFlags := 25, nameIndex := 354, descriptorIndex := 339, attributes := #[] }, { accessFlags := 25, nameIndex := 358, descriptorIndex := 339, attributes := #[] }, { accessFlags := 25, nameIndex := 361, descriptorIndex := 339, attributes := #[] }, { accessFlags := 26, nameIndex := 364, descriptorIndex := 339, attributes := #[] }, { accessFlags := 26, nameIndex := 365, descriptorIndex := 339, attributes := #[] }, { accessFlags := 26, nameIndex := 172, descriptorIndex := 173, attributes := #[] }, { accessFlags := 26, nameIndex := 176, descriptorIndex := 173, attributes := #[] }, { accessFlags := 8, nameIndex := 344, descriptorIndex := 339, attributes := #[] }, { accessFlags := 8, nameIndex := 338, descriptorIndex := 339, attributes := #[] }, { accessFlags := 4120, nameIndex := 245, descriptorIndex := 246, attributes := #[] }])
  fields := #[{ name := "E", type := .double, accessFlags := 25, slot := 0, constantValue := 0 }, { name := "PI", type := .double, accessFlags := 25, slot := 1, constantValue := 0 }, { name := "TAU", type := .double, accessFlags := 25, slot := 2, constantValue := 0 }, { name := "DEGREES_TO_RADIANS", type := .double, accessFlags := 26, slot := 3, constantValue := 0 }, { name := "RADIANS_TO_DEGREES", type := .double, accessFlags := 26, slot := 4, constantValue := 0 }, { name := "negativeZeroFloatBits", type := .long, accessFlags := 26, slot := 5, constantValue := 0 }, { name := "negativeZeroDoubleBits", type := .long, accessFlags := 26, slot := 6, constantValue := 0 }, { name := "twoToTheDoubleScaleUp", type := .double, accessFlags := 8, slot := 7, constantValue := 0 }, { name := "twoToTheDoubleScaleDown", type := .double, accessFlags := 8, slot := 8, constantValue := 0 }, { name := "$assertionsDisabled", type := .boolean, accessFlags := 4120, slot := 9, constantValue := 0 }]
  methods := #[k11m0, k11m1, k11m2]
  instanceTypes := #[]
  staticTypes := #[.double, .double, .double, .double, .double, .long, .long, .double, .double, .boolean]
  resolved := Array.replicate 460 none
  statics := none }

def pool12 : Array CpInfo := pool [(1, .methodref 2 3), (0, .class_ 4), (0, .nameAndType 5 6), (0, u "java/lang/Object"), (0, u "<init>"), (0, u "()V"), (0, .fieldref 8 9), (0, .class_ 10), (0, .nameAndType 11 12), (0, u "com/example/narada/narada/Transfer"), (0, u "address"), (0, u "Lcom/example/narada/narada/ObjectAddress;"), (0, .fieldref 8 14), (0, .nameAndType 15 16), (0, u "ticket"), (0, u "J"), (0, .methodref 18 19), (0, .class_ 20), (0, .nameAndType 21 22), (0, u "com/example/narada/narada/ObjectAddress"), (0, u "equals"), (0, u "(Ljava/lang/Object;)Z"), (21, u "NO_TICKET"), (3, u "(Lcom/example/narada/narada/ObjectAddress;J)V")] 26

def k12c0 : Code := { maxStack := 3, maxLocals := 4, code := prog_28_method_1_code, exceptionTable := #[], attributes := #[] }
def k12m0 : Method := { name := "<init>", desc := "(Lcom/example/narada/narada/ObjectAddress;J)V", sig := { parameters := [(.object "com/example/narada/narada/ObjectAddress"), .long], returnType := none }, accessFlags := 0, code := some k12c0 }
def k12c1 : Code := { maxStack := 4, maxLocals := 2, code := prog_28_method_4_code, exceptionTable := #[], attributes := #[] }
def k12m1 : Method := { name := "equals", desc := "(Ljava/lang/Object;)Z", sig := { parameters := [(.object "java/lang/Object")], returnType := some .boolean }, accessFlags := 1, code := some k12c1 }
/-- com/example/narada/narada/Transfer -/
def k12 : Class := { plain "com/example/narada/narada/Transfer" (some 0) with
  accessFlags := 32
  interfaces := #[]
  cf := some (fileOf pool12 8 #[] #[{ accessFlags := 0, nameIndex := 5, descriptorIndex := 48, attributes := #[] }, { accessFlags := 1, nameIndex := 21, descriptorIndex := 22, attributes := #[] }] 32 2 #[] #[{ accessFlags := 24, nameIndex := 44, descriptorIndex := 16, attributes := #[] }, { accessFlags := 18, nameIndex := 11, descriptorIndex := 12, attributes := #[] }, { accessFlags := 18, nameIndex := 15, descriptorIndex := 16, attributes := #[] }])
  fields := #[{ name := "NO_TICKET", type := .long, accessFlags := 24, slot := 0, constantValue := 0 }, { name := "address", type := (.object "com/example/narada/narada/ObjectAddress"), accessFlags := 18, slot := 0, constantValue := 0 }, { name := "ticket", type := .long, accessFlags := 18, slot := 1, constantValue := 0 }]
  methods := #[k12m0, k12m1]
  instanceTypes := #[(.object "com/example/narada/narada/ObjectAddress"), .long]
  staticTypes := #[.long]
  resolved := Array.replicate 75 none
  statics := none }

def pool13 : Array CpInfo := pool [(2, .class_ 4), (1, u "java/lang/Object"), (0, u "<init>"), (0, u "()V"), (17, .class_ 26), (1, u "jdk/internal/util/Preconditions"), (28, .class_ 56), (0, u "jdk/internal/util/Preconditions$4"), (57, .class_ 115), (0, u "jdk/internal/util/Preconditions$1"), (7, u "SIOOBE_FORMATTER"), (0, u "Ljava/util/function/BiFunction;"), (0, .class_ 126), (0, u "jdk/internal/util/Preconditions$2"), (3, u "AIOOBE_FORMATTER"), (0, .class_ 132), (0, u "jdk/internal/util/Preconditions$3"), (3, u "IOOBE_FORMATTER")] 57

def k13m0 : Method := { name := "<init>", desc := "()V", sig := { parameters := [], returnType := none }, accessFlags := 1, code := none }
/-- jdk/internal/util/Preconditions -/
def k13 : Class := { plain "jdk/internal/util/Preconditions" (some 0) with
  accessFlags := 33
  interfaces := #[]
  cf := some (fileOf pool13 24 #[.nestMembers #[55, 131, 125, 114]] #[{ accessFlags := 1, nameIndex := 5, descriptorIndex := 6, attributes := #[] }] 33 2 #[] #[{ accessFlags := 25, nameIndex := 123, descriptorIndex := 124, attributes := #[] }, { accessFlags := 25, nameIndex := 130, descriptorIndex := 124, attributes := #[] }, { accessFlags := 25, nameIndex := 136, descriptorIndex := 124, attributes := #[] }])
  fields := #[{ name := "SIOOBE_FORMATTER", type := (.object "java/util/function/BiFunction"), accessFlags := 25, slot := 0, constantValue := 0 }, { name := "AIOOBE_FORMATTER", type := (.object "java/util/function/BiFunction"), accessFlags := 25, slot := 1, constantValue := 0 }, { name := "IOOBE_FORMATTER", type := (.object "java/util/function/BiFunction"), accessFlags := 25, slot := 2, constantValue := 0 }]
  methods := #[k13m0]
  instanceTypes := #[]
  staticTypes := #[(.object "java/util/function/BiFunction"), (.object "java/util/function/BiFunction"), (.object "java/util/function/BiFunction")]
  resolved := Array.replicate 194 none
  statics := some 1 }

def pool14 : Array CpInfo := pool [(9, u "<init>"), (6, .class_ 18), (1, u "java/lang/Object"), (0, u "()V"), (1, .class_ 23), (1, u "jdk/internal/util/ArraysSupport"), (0, u "LOG2_ARRAY_LONG_INDEX_SCALE"), (0, u "I"), (2, u "U"), (0, u "Ljdk/internal/misc/Unsafe;"), (8, u "BIG_ENDIAN"), (0, u "Z"), (8, u "LOG2_BYTE_BIT_SIZE"), (4, u "LOG2_ARRAY_INT_INDEX_SCALE"), (54, u "JLA"), (0, u "Ljdk/internal/access/JavaLangAccess;"), (11, u "LOG2_ARRAY_BOOLEAN_INDEX_SCALE"), (9, u "LOG2_ARRAY_BYTE_INDEX_SCALE"), (5, u "LOG2_ARRAY_CHAR_INDEX_SCALE"), (5, u "LOG2_ARRAY_SHORT_INDEX_SCALE"), (18, u "LOG2_ARRAY_FLOAT_INDEX_SCALE"), (24, u "LOG2_ARRAY_DOUBLE_INDEX_SCALE"), (89, u "T_BOOLEAN"), (2, u "T_CHAR"), (1, u "T_FLOAT"), (1, u "T_DOUBLE"), (1, u "T_BYTE"), (1, u "T_SHORT"), (1, u "T_INT"), (1, u "T_LONG"), (1, u "SOFT_MAX_ARRAY_LENGTH")] 83

def k14m0 : Method := { name := "<init>", desc := "()V", sig := { parameters := [], returnType := none }, accessFlags := 2, code := none }
/-- jdk/internal/util/ArraysSupport -/
def k14 : Class := { plain "jdk/internal/util/ArraysSupport" (some 0) with
  accessFlags := 33
  interfaces := #[]
  cf := some (fileOf pool14 21 #[] #[{ accessFlags := 2, nameIndex := 9, descriptorIndex := 19, attributes := #[] }] 33 16 #[] #[{ accessFlags := 24, nameIndex := 28, descriptorIndex := 29, attributes := #[] }, { accessFlags := 26, nameIndex := 38, descriptorIndex := 39, attributes := #[] }, { accessFlags := 25, nameIndex := 121, descriptorIndex := 25, attributes := #[] }, { accessFlags := 25, nameIndex := 131, descriptorIndex := 25, attributes := #[] }, { accessFlags := 25, nameIndex := 137, descriptorIndex := 25, attributes := #[] }, { accessFlags := 25, nameIndex := 143, descriptorIndex := 25, attributes := #[] }, { accessFlags := 25, nameIndex := 53, descriptorIndex := 25, attributes := #[] }, { accessFlags := 25, nameIndex := 24, descriptorIndex := 25, attributes := #[] }, { accessFlags := 25, nameIndex := 162, descriptorIndex := 25, attributes := #[] }, { accessFlags := 25, nameIndex := 187, descriptorIndex := 25, attributes := #[] }, { accessFlags := 26, nameIndex := 48, descriptorIndex := 25, attributes := #[] }, { accessFlags := 25, nameIndex := 277, descriptorIndex := 25, attributes := #[] }, { accessFlags := 25, nameIndex := 280, descriptorIndex := 25, attributes := #[] }, { accessFlags := 25, nameIndex := 282, descriptorIndex := 25, attributes := #[] }, { accessFlags := 25, nameIndex := 284, descriptorIndex := 25, attributes := #[] }, { accessFlags := 25, nameIndex := 286, descriptorIndex := 25, attributes := #[] }, { accessFlags := 25, nameIndex := 288, descriptorIndex := 25, attributes := #[] }, { accessFlags := 25, nameIndex := 290, descriptorIndex := 25, attributes := #[] }, { accessFlags := 25, nameIndex := 292, descriptorIndex := 25, attributes := #[] }, { accessFlags := 26, nameIndex := 108, descriptorIndex := 109, attributes := #[] }, { accessFlags := 25, nameIndex := 294, descriptorIndex := 25, attributes := #[] }])
  fields := #[{ name := "U", type := (.object "jdk/internal/misc/Unsafe"), accessFlags := 24, slot := 0, constantValue := 0 }, { name := "BIG_ENDIAN", type := .boolean, accessFlags := 26, slot := 1, constantValue := 0 }, { name := "LOG2_ARRAY_BOOLEAN_INDEX_SCALE", type := .int, accessFlags := 25, slot := 2, constantValue := 0 }, { name := "LOG2_ARRAY_BYTE_INDEX_SCALE", type := .int, accessFlags := 25, slot := 3, constantValue := 0 }, { name := "LOG2_ARRAY_CHAR_INDEX_SCALE", type := .int, accessFlags := 25, slot := 4, constantValue := 0 }, { name := "LOG2_ARRAY_SHORT_INDEX_SCALE", type := .int, accessFlags := 25, slot := 5, constantValue := 0 }, { name := "LOG2_ARRAY_INT_INDEX_SCALE", type := .int, accessFlags := 25, slot := 6, constantValue := 0 }, { name := "LOG2_ARRAY_LONG_INDEX_SCALE", type := .int, accessFlags := 25, slot := 7, constantValue := 0 }, { name := "LOG2_ARRAY_FLOAT_INDEX_SCALE", type := .int, accessFlags := 25, slot := 8, constantValue := 0 }, { name := "LOG2_ARRAY_DOUBLE_INDEX_SCALE", type := .int, accessFlags := 25, slot := 9, constantValue := 0 }, { name := "LOG2_BYTE_BIT_SIZE", type := .int, accessFlags := 26, slot := 10, constantValue := 0 }, { name := "T_BOOLEAN", type := .int, accessFlags := 25, slot := 11, constantValue := 0 }, { name := "T_CHAR", type := .int, accessFlags := 25, slot := 12, constantValue := 0 }, { name := "T_FLOAT", type := .int, accessFlags := 25, slot := 13, constantValue := 0 }, { name := "T_DOUBLE", type := .int, accessFlags := 25, slot := 14, constantValue := 0 }, { name := "T_BYTE", type := .int, accessFlags := 25, slot := 15, constantValue := 0 }, { name := "T_SHORT", type := .int, accessFlags := 25, slot := 16, constantValue := 0 }, { name := "T_INT", type := .int, accessFlags := 25, slot := 17, constantValue := 0 }, { name := "T_LONG", type := .int, accessFlags := 25, slot := 18, constantValue := 0 }, { name := "JLA", type := (.object "jdk/internal/access/JavaLangAccess"), accessFlags := 26, slot := 19, constantValue := 0 }, { name := "SOFT_MAX_ARRAY_LENGTH", type := .int, accessFlags := 25, slot := 20, constantValue := 0 }]
  methods := #[k14m0]
  instanceTypes := #[]
  staticTypes := #[(.object "jdk/internal/misc/Unsafe"), .boolean, .int, .int, .int, .int, .int, .int, .int, .int, .int, .int, .int, .int, .int, .int, .int, .int, .int, (.object "jdk/internal/access/JavaLangAccess"), .int]
  resolved := Array.replicate 378 none
  statics := none }

def pool15 : Array CpInfo := pool [(1, u "java/lang/Cloneable"), (0, .class_ 1), (0, u "java/lang/Object"), (0, .class_ 3)] 3

/-- java/lang/Cloneable -/
def k15 : Class := { plain "java/lang/Cloneable" (some 0) with
  accessFlags := 1537
  interfaces := #[]
  cf := some (fileOf pool15 2 #[] #[] 1537 4 #[] #[])
  fields := #[]
  methods := #[]
  instanceTypes := #[]
  staticTypes := #[]
  resolved := Array.replicate 8 none
  statics := none }

/-- the primitive byte -/
def k16 : Class := { plain "byte" none with kind := .primitive 'B', accessFlags := 0x411 }
/-- [B -/
def k17 : Class := { plain "[B" (some 0) with kind := .array 16 .byte, interfaces := #[15, 3], accessFlags := 1041 }

/-- the primitive char -/
def k18 : Class := { plain "char" none with kind := .primitive 'C', accessFlags := 0x411 }
/-- [C -/
def k19 : Class := { plain "[C" (some 0) with kind := .array 18 .char, interfaces := #[15, 3], accessFlags := 1041 }

/-- the primitive int -/
def k20 : Class := { plain "int" none with kind := .primitive 'I', accessFlags := 0x411 }
/-- [I -/
def k21 : Class := { plain "[I" (some 0) with kind := .array 20 .int, interfaces := #[15, 3], accessFlags := 1041 }

def heap : Heap := #[{ cls := 8, slots := #[.long 0, .int 1, .null, .int 0, .null, .int 0, .int 0], vm := .statics 8 },
  { cls := 13, slots := #[.null, .null, .null], vm := .statics 13 }]
def classes : Array Class := #[k0, k1, k2, k3, k4, k5, k6, k7, k8, k9, k10, k11, k12, k13, k14, k15, k16, k17, k18, k19, k20, k21]
def interned : List (Array UInt16 × Addr) := []
def slotsUsed : Nat := 10
def theMethod : MethodId := ⟨1, 3⟩
def args0 : Array Value := #[.int 1, .int 2, .long 3, .long 4, .long 5, .long 6]
def aboutOver (below : List Frame) : State where
  vm := { classes := classes, interned := interned.toArray }
  heap := heap
  slotsUsed := slotsUsed
  threads := #[{ frames := .invoking theMethod args0 :: below }]
def below0 : List Frame := [.native { method := ⟨0, 0⟩, args := #[] }]
def about1 : State := aboutOver below0
def p0 : Program := .bare "" "" ""
def e0 : Env := launch0.env 0 0 0
theorem w_frames : about1.frames = Frame.invoking theMethod args0 :: below0 := rfl
set_option maxRecDepth 65536 in
theorem w_args : argsFit about1.vm theMethod args0 = true := by decide +kernel
set_option maxRecDepth 65536 in
theorem w_heap : heapFits about1 = true := by decide +kernel
set_option maxRecDepth 65536 in
theorem w_runnable : about1.curStatus? = some .runnable := by decide +kernel
set_option maxRecDepth 65536 in
theorem w_alone : about1.alone = true := by decide +kernel
set_option maxRecDepth 65536 in
theorem w_named : about1.methodNamed? x = some theMethod := by decide +kernel
set_option maxRecDepth 65536 in
theorem w_hears : about1.hears theMethod below0 = true := by decide +kernel
set_option maxRecDepth 65536 in
theorem w_ripe : about1.ripe theMethod args0 below0 = true := by decide +kernel
theorem w_running : about1.status = .running := rfl
set_option maxRecDepth 65536 in
theorem w_room : about1.hasRoom e0.platform room_1 = true :=
  launch0.hasRoom_least _ room_1 (by decide +kernel) (by decide +kernel) (by decide +kernel) (by decide +kernel) (by decide +kernel) (by decide +kernel)
theorem allAtoms_all (ts : List Jvm.Cond) (a : Array Jvm.Value) (st : Jvm.State) : (allAtoms ts).before a st = ts.all (fun c => c.before a st) := by
  induction ts with
  | nil => rfl
  | cons c t ih =>
    show (Jvm.Cond.and c (allAtoms t)).before a st = _
    rw [Jvm.Cond.before_and, ih, List.all_cons]
def words1 : List Jvm.Cond := Jvm.Cond.code x code maxLocals ret :: tables_1
/-- a 'code' word, met by the world's own term for the bytes: nothing is compared byte by byte -/
theorem code_word {y : MethodName} {bytes : ByteArray} {mx : Nat} {rt : Option FieldType} {a : Array Value} {s : State} {m : MethodId} {meth : Method} {c : Code} (h1 : s.methodNamed? y = some m) (h2 : s.vm.method? m = some meth) (h3 : meth.code = some c) (h4 : c.code = bytes)
    (h5 : (c.maxLocals == mx && c.exceptionTable.isEmpty && decide (c.maxStack ≤ mostOperands) && decide (meth.sig.returnType = rt) && !meth.locks && decide (parseMethodDescriptor y.desc = some meth.sig)) = true) : (Jvm.Cond.code y bytes mx rt).before a s = true := by
  simp only [Bool.and_eq_true, beq_iff_eq, Bool.not_eq_true', decide_eq_true_eq] at h5
  obtain ⟨⟨⟨⟨⟨g1, g2⟩, g3⟩, g4⟩, g5⟩, g6⟩ := h5
  simp [Cond.before, Cond.holds, Cond.value, h1, h2, h3, h4, g1, g2, g3, g4, g5, g6]
def isCode : Jvm.Cond → Bool
  | .code _ _ _ _ => true
  | _ => false
theorem all_split {L : List Jvm.Cond} {P : Jvm.Cond → Bool} (h1 : L.all (fun c => isCode c || P c) = true) (h2 : ∀ c ∈ L.filter isCode, P c = true) : L.all P = true := by
  refine List.all_eq_true.mpr fun c hc => ?_
  have h := List.all_eq_true.mp h1 c hc
  rcases Bool.eq_false_or_eq_true (isCode c) with hi | hi
  · exact h2 c (List.mem_filter.mpr ⟨hc, hi⟩)
  · simpa [hi] using h
set_option maxRecDepth 65536 in
theorem w_c0 : (Jvm.Cond.code x code maxLocals ret).before args0 about1 = true := code_word (m := ⟨1, 3⟩) (meth := k1m3) (c := k1c3) (by decide +kernel) rfl rfl rfl (by decide +kernel)
set_option maxRecDepth 65536 in
theorem w_c1 : (Jvm.Cond.code ({ cls := "com/example/narada/narada/TransferEqualsPinLaw", name := "ch", desc := "(I)C" } : Jvm.MethodName) method_2_code (2 : Nat) (Option.some Jvm.ClassFile.FieldType.char)).before args0 about1 = true := code_word (m := ⟨1, 1⟩) (meth := k1m1) (c := k1c1) (by decide +kernel) rfl rfl rfl (by decide +kernel)
set_option maxRecDepth 65536 in
theorem w_c2 : (Jvm.Cond.code ({ cls := "com/example/narada/narada/TransferEqualsPinLaw", name := "second", desc := "(CI)C" } : Jvm.MethodName) method_3_code (3 : Nat) (Option.some Jvm.ClassFile.FieldType.char)).before args0 about1 = true := code_word (m := ⟨1, 2⟩) (meth := k1m2) (c := k1c2) (by decide +kernel) rfl rfl rfl (by decide +kernel)
set_option maxRecDepth 65536 in
theorem w_c3 : (Jvm.Cond.code ({ cls := "java/lang/String", name := "<init>", desc := "([C)V" } : Jvm.MethodName) jdk_42_method_3_code (2 : Nat) (Option.none : Option Jvm.ClassFile.FieldType)).before args0 about1 = true := code_word (m := ⟨8, 1⟩) (meth := k8m1) (c := k8c1) (by decide +kernel) rfl rfl rfl (by decide +kernel)
set_option maxRecDepth 65536 in
theorem w_c4 : (Jvm.Cond.code ({ cls := "java/lang/String", name := "<init>", desc := "([CIILjava/lang/Void;)V" } : Jvm.MethodName) jdk_42_method_149_code (6 : Nat) (Option.none : Option Jvm.ClassFile.FieldType)).before args0 about1 = true := code_word (m := ⟨8, 7⟩) (meth := k8m7) (c := k8c7) (by decide +kernel) rfl rfl rfl (by decide +kernel)
set_option maxRecDepth 65536 in
theorem w_c5 : (Jvm.Cond.code ({ cls := "java/lang/Object", name := "<init>", desc := "()V" } : Jvm.MethodName) object_method_1_code (1 : Nat) (Option.none : Option Jvm.ClassFile.FieldType)).before args0 about1 = true := code_word (m := ⟨0, 0⟩) (meth := k0m0) (c := k0c0) (by decide +kernel) rfl rfl rfl (by decide +kernel)
set_option maxRecDepth 65536 in
theorem w_c6 : (Jvm.Cond.code ({ cls := "java/lang/StringUTF16", name := "compress", desc := "([CII)[B" } : Jvm.MethodName) jdk_52_method_16_code (6 : Nat) (Option.some (Jvm.ClassFile.FieldType.array Jvm.ClassFile.FieldType.byte))).before args0 about1 = true := code_word (m := ⟨9, 2⟩) (meth := k9m2) (c := k9c2) (by decide +kernel) rfl rfl rfl (by decide +kernel)
set_option maxRecDepth 65536 in
theorem w_c7 : (Jvm.Cond.code ({ cls := "java/lang/StringUTF16", name := "compress", desc := "([CI[BII)I" } : Jvm.MethodName) jdk_52_method_21_code (7 : Nat) (Option.some Jvm.ClassFile.FieldType.int)).before args0 about1 = true := code_word (m := ⟨9, 3⟩) (meth := k9m3) (c := k9c3) (by decide +kernel) rfl rfl rfl (by decide +kernel)
set_option maxRecDepth 65536 in
theorem w_c8 : (Jvm.Cond.code ({ cls := "java/lang/StringUTF16", name := "coderFromArrayLen", desc := "([BI)B" } : Jvm.MethodName) jdk_52_method_15_code (2 : Nat) (Option.some Jvm.ClassFile.FieldType.byte)).before args0 about1 = true := code_word (m := ⟨9, 1⟩) (meth := k9m1) (c := k9c1) (by decide +kernel) rfl rfl rfl (by decide +kernel)
set_option maxRecDepth 65536 in
theorem w_c9 : (Jvm.Cond.code ({ cls := "com/example/narada/narada/ObjectAddress", name := "<init>", desc := "(Ljava/lang/String;J)V" } : Jvm.MethodName) prog_13_method_1_code (4 : Nat) (Option.none : Option Jvm.ClassFile.FieldType)).before args0 about1 = true := code_word (m := ⟨2, 0⟩) (meth := k2m0) (c := k2c0) (by decide +kernel) rfl rfl rfl (by decide +kernel)
set_option maxRecDepth 65536 in
theorem w_c10 : (Jvm.Cond.code ({ cls := "java/lang/String", name := "isEmpty", desc := "()Z" } : Jvm.MethodName) jdk_42_method_55_code (1 : Nat) (Option.some Jvm.ClassFile.FieldType.boolean)).before args0 about1 = true := code_word (m := ⟨8, 3⟩) (meth := k8m3) (c := k8c3) (by decide +kernel) rfl rfl rfl (by decide +kernel)
set_option maxRecDepth 65536 in
theorem w_c11 : (Jvm.Cond.code ({ cls := "java/lang/String", name := "equals", desc := "(Ljava/lang/Object;)Z" } : Jvm.MethodName) jdk_42_method_66_code (3 : Nat) (Option.some Jvm.ClassFile.FieldType.boolean)).before args0 about1 = true := code_word (m := ⟨8, 4⟩) (meth := k8m4) (c := k8c4) (by decide +kernel) rfl rfl rfl (by decide +kernel)
set_option maxRecDepth 65536 in
theorem w_c12 : (Jvm.Cond.code ({ cls := "java/lang/StringLatin1", name := "equals", desc := "([B[B)Z" } : Jvm.MethodName) jdk_43_method_13_code (3 : Nat) (Option.some Jvm.ClassFile.FieldType.boolean)).before args0 about1 = true := code_word (m := ⟨10, 2⟩) (meth := k10m2) (c := k10c2) (by decide +kernel) rfl rfl rfl (by decide +kernel)
set_option maxRecDepth 65536 in
theorem w_c13 : (Jvm.Cond.code ({ cls := "java/lang/String", name := "indexOf", desc := "(I)I" } : Jvm.MethodName) jdk_42_method_79_code (2 : Nat) (Option.some Jvm.ClassFile.FieldType.int)).before args0 about1 = true := code_word (m := ⟨8, 5⟩) (meth := k8m5) (c := k8c5) (by decide +kernel) rfl rfl rfl (by decide +kernel)
set_option maxRecDepth 65536 in
theorem w_c14 : (Jvm.Cond.code ({ cls := "java/lang/String", name := "indexOf", desc := "(II)I" } : Jvm.MethodName) jdk_42_method_80_code (3 : Nat) (Option.some Jvm.ClassFile.FieldType.int)).before args0 about1 = true := code_word (m := ⟨8, 6⟩) (meth := k8m6) (c := k8c6) (by decide +kernel) rfl rfl rfl (by decide +kernel)
set_option maxRecDepth 65536 in
theorem w_c15 : (Jvm.Cond.code ({ cls := "java/lang/String", name := "isLatin1", desc := "()Z" } : Jvm.MethodName) jdk_42_method_154_code (1 : Nat) (Option.some Jvm.ClassFile.FieldType.boolean)).before args0 about1 = true := code_word (m := ⟨8, 9⟩) (meth := k8m9) (c := k8c9) (by decide +kernel) rfl rfl rfl (by decide +kernel)
set_option maxRecDepth 65536 in
theorem w_c16 : (Jvm.Cond.code ({ cls := "java/lang/String", name := "length", desc := "()I" } : Jvm.MethodName) jdk_42_method_54_code (1 : Nat) (Option.some Jvm.ClassFile.FieldType.int)).before args0 about1 = true := code_word (m := ⟨8, 2⟩) (meth := k8m2) (c := k8c2) (by decide +kernel) rfl rfl rfl (by decide +kernel)
set_option maxRecDepth 65536 in
theorem w_c17 : (Jvm.Cond.code ({ cls := "java/lang/String", name := "coder", desc := "()B" } : Jvm.MethodName) jdk_42_method_152_code (1 : Nat) (Option.some Jvm.ClassFile.FieldType.byte)).before args0 about1 = true := code_word (m := ⟨8, 8⟩) (meth := k8m8) (c := k8c8) (by decide +kernel) rfl rfl rfl (by decide +kernel)
set_option maxRecDepth 65536 in
theorem w_c18 : (Jvm.Cond.code ({ cls := "java/lang/StringLatin1", name := "indexOf", desc := "([BIII)I" } : Jvm.MethodName) jdk_43_method_22_code (4 : Nat) (Option.some Jvm.ClassFile.FieldType.int)).before args0 about1 = true := code_word (m := ⟨10, 3⟩) (meth := k10m3) (c := k10c3) (by decide +kernel) rfl rfl rfl (by decide +kernel)
set_option maxRecDepth 65536 in
theorem w_c19 : (Jvm.Cond.code ({ cls := "java/lang/StringLatin1", name := "canEncode", desc := "(I)Z" } : Jvm.MethodName) jdk_43_method_4_code (1 : Nat) (Option.some Jvm.ClassFile.FieldType.boolean)).before args0 about1 = true := code_word (m := ⟨10, 1⟩) (meth := k10m1) (c := k10c1) (by decide +kernel) rfl rfl rfl (by decide +kernel)
set_option maxRecDepth 65536 in
theorem w_c20 : (Jvm.Cond.code ({ cls := "java/lang/Math", name := "max", desc := "(II)I" } : Jvm.MethodName) jdk_29_method_65_code (2 : Nat) (Option.some Jvm.ClassFile.FieldType.int)).before args0 about1 = true := code_word (m := ⟨11, 1⟩) (meth := k11m1) (c := k11c1) (by decide +kernel) rfl rfl rfl (by decide +kernel)
set_option maxRecDepth 65536 in
theorem w_c21 : (Jvm.Cond.code ({ cls := "java/lang/Math", name := "min", desc := "(II)I" } : Jvm.MethodName) jdk_29_method_69_code (2 : Nat) (Option.some Jvm.ClassFile.FieldType.int)).before args0 about1 = true := code_word (m := ⟨11, 2⟩) (meth := k11m2) (c := k11c2) (by decide +kernel) rfl rfl rfl (by decide +kernel)
set_option maxRecDepth 65536 in
theorem w_c22 : (Jvm.Cond.code ({ cls := "java/lang/StringLatin1", name := "indexOfChar", desc := "([BIII)I" } : Jvm.MethodName) jdk_43_method_23_code (6 : Nat) (Option.some Jvm.ClassFile.FieldType.int)).before args0 about1 = true := code_word (m := ⟨10, 4⟩) (meth := k10m4) (c := k10c4) (by decide +kernel) rfl rfl rfl (by decide +kernel)
set_option maxRecDepth 65536 in
theorem w_c23 : (Jvm.Cond.code ({ cls := "com/example/narada/narada/Transfer", name := "<init>", desc := "(Lcom/example/narada/narada/ObjectAddress;J)V" } : Jvm.MethodName) prog_28_method_1_code (4 : Nat) (Option.none : Option Jvm.ClassFile.FieldType)).before args0 about1 = true := code_word (m := ⟨12, 0⟩) (meth := k12m0) (c := k12c0) (by decide +kernel) rfl rfl rfl (by decide +kernel)
set_option maxRecDepth 65536 in
theorem w_c24 : (Jvm.Cond.code ({ cls := "com/example/narada/narada/Transfer", name := "equals", desc := "(Ljava/lang/Object;)Z" } : Jvm.MethodName) prog_28_method_4_code (2 : Nat) (Option.some Jvm.ClassFile.FieldType.boolean)).before args0 about1 = true := code_word (m := ⟨12, 1⟩) (meth := k12m1) (c := k12c1) (by decide +kernel) rfl rfl rfl (by decide +kernel)
set_option maxRecDepth 65536 in
theorem w_c25 : (Jvm.Cond.code ({ cls := "com/example/narada/narada/ObjectAddress", name := "equals", desc := "(Ljava/lang/Object;)Z" } : Jvm.MethodName) prog_13_method_4_code (2 : Nat) (Option.some Jvm.ClassFile.FieldType.boolean)).before args0 about1 = true := code_word (m := ⟨2, 1⟩) (meth := k2m1) (c := k2c1) (by decide +kernel) rfl rfl rfl (by decide +kernel)
def codes1 : List Jvm.Cond := [Jvm.Cond.code x code maxLocals ret, Jvm.Cond.code ({ cls := "com/example/narada/narada/TransferEqualsPinLaw", name := "ch", desc := "(I)C" } : Jvm.MethodName) method_2_code (2 : Nat) (Option.some Jvm.ClassFile.FieldType.char), Jvm.Cond.code ({ cls := "com/example/narada/narada/TransferEqualsPinLaw", name := "second", desc := "(CI)C" } : Jvm.MethodName) method_3_code (3 : Nat) (Option.some Jvm.ClassFile.FieldType.char), Jvm.Cond.code ({ cls := "java/lang/String", name := "<init>", desc := "([C)V" } : Jvm.MethodName) jdk_42_method_3_code (2 : Nat) (Option.none : Option Jvm.ClassFile.FieldType), Jvm.Cond.code ({ cls := "java/lang/String", name := "<init>", desc := "([CIILjava/lang/Void;)V" } : Jvm.MethodName) jdk_42_method_149_code (6 : Nat) (Option.none : Option Jvm.ClassFile.FieldType), Jvm.Cond.code ({ cls := "java/lang/Object", name := "<init>", desc := "()V" } : Jvm.MethodName) object_method_1_code (1 : Nat) (Option.none : Option Jvm.ClassFile.FieldType), Jvm.Cond.code ({ cls := "java/lang/StringUTF16", name := "compress", desc := "([CII)[B" } : Jvm.MethodName) jdk_52_method_16_code (6 : Nat) (Option.some (Jvm.ClassFile.FieldType.array Jvm.ClassFile.FieldType.byte)), Jvm.Cond.code ({ cls := "java/lang/StringUTF16", name := "compress", desc := "([CI[BII)I" } : Jvm.MethodName) jdk_52_method_21_code (7 : Nat) (Option.some Jvm.ClassFile.FieldType.int), Jvm.Cond.code ({ cls := "java/lang/StringUTF16", name := "coderFromArrayLen", desc := "([BI)B" } : Jvm.MethodName) jdk_52_method_15_code (2 : Nat) (Option.some Jvm.ClassFile.FieldType.byte), Jvm.Cond.code ({ cls := "com/example/narada/narada/ObjectAddress", name := "<init>", desc := "(Ljava/lang/String;J)V" } : Jvm.MethodName) prog_13_method_1_code (4 : Nat) (Option.none : Option Jvm.ClassFile.FieldType), Jvm.Cond.code ({ cls := "java/lang/String", name := "isEmpty", desc := "()Z" } : Jvm.MethodName) jdk_42_method_55_code (1 : Nat) (Option.some Jvm.ClassFile.FieldType.boolean), Jvm.Cond.code ({ cls := "java/lang/String", name := "equals", desc := "(Ljava/lang/Object;)Z" } : Jvm.MethodName) jdk_42_method_66_code (3 : Nat) (Option.some Jvm.ClassFile.FieldType.boolean), Jvm.Cond.code ({ cls := "java/lang/StringLatin1", name := "equals", desc := "([B[B)Z" } : Jvm.MethodName) jdk_43_method_13_code (3 : Nat) (Option.some Jvm.ClassFile.FieldType.boolean), Jvm.Cond.code ({ cls := "java/lang/String", name := "indexOf", desc := "(I)I" } : Jvm.MethodName) jdk_42_method_79_code (2 : Nat) (Option.some Jvm.ClassFile.FieldType.int), Jvm.Cond.code ({ cls := "java/lang/String", name := "indexOf", desc := "(II)I" } : Jvm.MethodName) jdk_42_method_80_code (3 : Nat) (Option.some Jvm.ClassFile.FieldType.int), Jvm.Cond.code ({ cls := "java/lang/String", name := "isLatin1", desc := "()Z" } : Jvm.MethodName) jdk_42_method_154_code (1 : Nat) (Option.some Jvm.ClassFile.FieldType.boolean), Jvm.Cond.code ({ cls := "java/lang/String", name := "length", desc := "()I" } : Jvm.MethodName) jdk_42_method_54_code (1 : Nat) (Option.some Jvm.ClassFile.FieldType.int), Jvm.Cond.code ({ cls := "java/lang/String", name := "coder", desc := "()B" } : Jvm.MethodName) jdk_42_method_152_code (1 : Nat) (Option.some Jvm.ClassFile.FieldType.byte), Jvm.Cond.code ({ cls := "java/lang/StringLatin1", name := "indexOf", desc := "([BIII)I" } : Jvm.MethodName) jdk_43_method_22_code (4 : Nat) (Option.some Jvm.ClassFile.FieldType.int), Jvm.Cond.code ({ cls := "java/lang/StringLatin1", name := "canEncode", desc := "(I)Z" } : Jvm.MethodName) jdk_43_method_4_code (1 : Nat) (Option.some Jvm.ClassFile.FieldType.boolean), Jvm.Cond.code ({ cls := "java/lang/Math", name := "max", desc := "(II)I" } : Jvm.MethodName) jdk_29_method_65_code (2 : Nat) (Option.some Jvm.ClassFile.FieldType.int), Jvm.Cond.code ({ cls := "java/lang/Math", name := "min", desc := "(II)I" } : Jvm.MethodName) jdk_29_method_69_code (2 : Nat) (Option.some Jvm.ClassFile.FieldType.int), Jvm.Cond.code ({ cls := "java/lang/StringLatin1", name := "indexOfChar", desc := "([BIII)I" } : Jvm.MethodName) jdk_43_method_23_code (6 : Nat) (Option.some Jvm.ClassFile.FieldType.int), Jvm.Cond.code ({ cls := "com/example/narada/narada/Transfer", name := "<init>", desc := "(Lcom/example/narada/narada/ObjectAddress;J)V" } : Jvm.MethodName) prog_28_method_1_code (4 : Nat) (Option.none : Option Jvm.ClassFile.FieldType), Jvm.Cond.code ({ cls := "com/example/narada/narada/Transfer", name := "equals", desc := "(Ljava/lang/Object;)Z" } : Jvm.MethodName) prog_28_method_4_code (2 : Nat) (Option.some Jvm.ClassFile.FieldType.boolean), Jvm.Cond.code ({ cls := "com/example/narada/narada/ObjectAddress", name := "equals", desc := "(Ljava/lang/Object;)Z" } : Jvm.MethodName) prog_13_method_4_code (2 : Nat) (Option.some Jvm.ClassFile.FieldType.boolean)]
set_option maxRecDepth 65536 in
theorem codes_eq : words1.filter isCode = codes1 := rfl
theorem w_codes : ∀ c ∈ words1.filter isCode, c.before args0 about1 = true := by
  rw [codes_eq]
  intro c hc
  simp only [codes1, List.mem_cons, List.not_mem_nil, or_false] at hc
  rcases hc with rfl | rfl | rfl | rfl | rfl | rfl | rfl | rfl | rfl | rfl | rfl | rfl | rfl | rfl | rfl | rfl | rfl | rfl | rfl | rfl | rfl | rfl | rfl | rfl | rfl | rfl
  · exact w_c0
  · exact w_c1
  · exact w_c2
  · exact w_c3
  · exact w_c4
  · exact w_c5
  · exact w_c6
  · exact w_c7
  · exact w_c8
  · exact w_c9
  · exact w_c10
  · exact w_c11
  · exact w_c12
  · exact w_c13
  · exact w_c14
  · exact w_c15
  · exact w_c16
  · exact w_c17
  · exact w_c18
  · exact w_c19
  · exact w_c20
  · exact w_c21
  · exact w_c22
  · exact w_c23
  · exact w_c24
  · exact w_c25
set_option maxRecDepth 65536 in
theorem w_t1 : (words1.take 24).all (fun c => isCode c || c.before args0 about1) = true := by decide +kernel
set_option maxRecDepth 65536 in
theorem w_t2 : ((words1.drop 24).take 24).all (fun c => isCode c || c.before args0 about1) = true := by decide +kernel
set_option maxRecDepth 65536 in
theorem w_t3 : (((words1.drop 24).drop 24).take 24).all (fun c => isCode c || c.before args0 about1) = true := by decide +kernel
set_option maxRecDepth 65536 in
theorem w_t4 : ((((words1.drop 24).drop 24).drop 24).take 24).all (fun c => isCode c || c.before args0 about1) = true := by decide +kernel
set_option maxRecDepth 65536 in
theorem w_t5 : (((((words1.drop 24).drop 24).drop 24).drop 24).take 24).all (fun c => isCode c || c.before args0 about1) = true := by decide +kernel
set_option maxRecDepth 65536 in
theorem w_t6 : (((((words1.drop 24).drop 24).drop 24).drop 24).drop 24).all (fun c => isCode c || c.before args0 about1) = true := by decide +kernel
theorem w_tables : (allAtoms (Jvm.Cond.code x code maxLocals ret :: tables_1)).before args0 about1 = true := by
  rw [allAtoms_all]
  show words1.all (fun c => c.before args0 about1) = true
  refine all_split ?_ w_codes
  rw [← List.take_append_drop 24 words1, List.all_append, w_t1, ← List.take_append_drop 24 (words1.drop 24), List.all_append, w_t2, ← List.take_append_drop 24 ((words1.drop 24).drop 24), List.all_append, w_t3, ← List.take_append_drop 24 (((words1.drop 24).drop 24).drop 24), List.all_append, w_t4, ← List.take_append_drop 24 ((((words1.drop 24).drop 24).drop 24).drop 24), List.all_append, w_t5, w_t6]
  rfl
set_option maxRecDepth 65536 in
theorem w_rest : rest_1_c.before args0 about1 = true := by decide +kernel
set_option maxRecDepth 65536 in
theorem w_case : (Jvm.Cond.and given_1 narrow_1).before args0 about1 = true := by decide +kernel
set_option maxRecDepth 65536 in
theorem w_consts : constsHeld consts_1 about1 := Jvm.Lit.constsHeldB_iff.mp (by decide +kernel)
theorem w_applies : (headSpec (Jvm.Cond.code x code maxLocals ret :: tables_1) room_1).applies x e0.platform about1 = true :=
  (Spec.applies_iff w_frames).mpr ⟨w_running, w_runnable, w_alone, w_named, w_hears, w_ripe, w_room, w_tables⟩
theorem atStart : AtStart classFile x code maxLocals ret World_1 tables_1 room_1 Calls_1 rest_1 Pre_1 launch0 p0 e0 about1 theMethod args0 below0 :=
  ⟨lists_1, trivial, launch0.admits_env _ _ _, launch0.least_env, fairChoices_fair.cas, fairChoices_fair.clock, w_frames, w_args, w_heap, w_applies, ⟨w_consts, trivial⟩, w_rest, w_case⟩
end start1
theorem witness_1 : WitnessClaimed_1 := ⟨start1.p0, start1.e0, start1.about1, start1.theMethod, start1.args0, start1.below0, start1.atStart⟩
end Jvm.Pilot.@@N@@
