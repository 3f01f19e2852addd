import JvmDerived
import JvmDerived.Pilot.@@N@@Statement
import JvmDerived.Pilot.@@N@@Code
set_option linter.unusedVariables false
set_option linter.unusedSimpArgs false
/- laws to paste: Road.backV (cut by pick.py; bodies as the Statement names them) -/
namespace Jvm.Pilot.@@N@@
namespace StrChars
open Jvm Sem ClassFile Op Lib Jvm.Stand Jvm.Free.XT Jvm.Free.ALB Jvm.Free.JM Jvm.Free
open Jvm.Lib.Cold (StaticIs)
/-- a char array whose places are chars -/
def Ch (a : Addr) (A : Cell) (U : State) : Prop := Arr .char a A U ∧ Typed .char A
theorem Ch.mv {a : Addr} {A : Cell} {U U' : State} (h : Ch a A U) (hal : U.vm.Alike U'.vm) (hh : U'.heap = U.heap) : Ch a A U' := ⟨h.1.mv hal hh, h.2⟩
theorem Ch.keep {a : Addr} {A : Cell} {U U' : State} (h : Ch a A U) (hal : U.vm.Alike U'.vm) (hk : U'.heap[a]? = some A) : Ch a A U' := ⟨h.1.keep hal hk, h.2⟩
/-- what place i of a char[]'s cell holds -/
def cv (A : Cell) (i : Nat) : Int32 := match A.slots[i]? with | some (.int x) => x | _ => 0
theorem Ch.get {a : Addr} {A : Cell} {U : State} (h : Ch a A U) {i : Nat} (hi : i < A.slots.size) : A.slots[i]? = some (.int (cv A i)) := by
  have e := Array.getElem?_eq_getElem hi
  have f := h.2 i _ e
  unfold cv; rw [e]
  generalize A.slots[i] = v at f
  cases v <;> simp [fits] at f ⊢
/-- the byte that i2b leaves of a char -/
def lo8 (x : Int32) : Int32 := x.toInt8.toInt32
theorem fits_lo8 (y : Int32) : fits .byte (.int (lo8 y)) = true := by
  have h1 := y.toInt8.le_toInt
  have h2 := y.toInt8.toInt_lt
  simp only [lo8, fits, Bool.and_eq_true, decide_eq_true_eq, Int32.le_iff_toInt_le, Int8.toInt_toInt32, show (-128 : Int32).toInt = -128 from by decide, show (127 : Int32).toInt = 127 from by decide]
  omega
/-- A' is A but that each place j of lo .. hi - 1 holds f j -/
def Laid (A A' : Cell) (lo hi : Nat) (f : Nat → Value) : Prop := A'.cls = A.cls ∧ A'.vm = A.vm ∧ A'.slots.size = A.slots.size ∧ ∀ i, A'.slots[i]? = if lo ≤ i ∧ i < hi then some (f i) else A.slots[i]?
theorem Laid.zero (A : Cell) (lo : Nat) (f : Nat → Value) : Laid A A lo (lo + 0) f := ⟨rfl, rfl, rfl, fun i => by rw [if_neg (by omega)]⟩
theorem Laid.step {A Ak : Cell} {lo k : Nat} {f : Nat → Value} {v : Value} (h : Laid A Ak lo k f) (hlo : lo ≤ k) (hk : k < Ak.slots.size) (hv : v = f k) : Laid A (Ak.setSlot k v) lo (k + 1) f := by
  refine ⟨h.1, h.2.1, by simpa [Cell.setSlot] using h.2.2.1, fun i => ?_⟩
  by_cases e : k = i
  · subst e; rw [Cell.slots_setSlot_self v hk, if_pos (by omega), hv]
  · rw [Cell.slots_setSlot_ne v e, h.2.2.2 i]
    by_cases q : lo ≤ i ∧ i < k
    · rw [if_pos q, if_pos (by omega)]
    · rw [if_neg q, if_neg (by omega)]
def U16 : String := "java/lang/StringUTF16"
namespace Cmp5
def yN : MethodName := ⟨"java/lang/StringUTF16", "compress", "([CI[BII)I"⟩
abbrev yB : ByteArray := jdk_52_method_21_code
theorem d0 : decode yB 0 = .ok (.iconst 0, 1) := by decide +kernel
theorem d1 : decode yB 1 = .ok (.istore 5, 2) := by decide +kernel
theorem d3 : decode yB 3 = .ok (.iload 5, 2) := by decide +kernel
theorem d5 : decode yB 5 = .ok (.iload 4, 2) := by decide +kernel
theorem d7 : decode yB 7 = .ok (.if_icmp (.ge) 37, 3) := by decide +kernel
theorem d10 : decode yB 10 = .ok (.aload_n 0, 1) := by decide +kernel
theorem d11 : decode yB 11 = .ok (.iload_n 1, 1) := by decide +kernel
theorem d12 : decode yB 12 = .ok (.caload, 1) := by decide +kernel
theorem d13 : decode yB 13 = .ok (.istore 6, 2) := by decide +kernel
theorem d15 : decode yB 15 = .ok (.iload 6, 2) := by decide +kernel
theorem d17 : decode yB 17 = .ok (.sipush 255, 3) := by decide +kernel
theorem d20 : decode yB 20 = .ok (.if_icmp (.le) 6, 3) := by decide +kernel
theorem d26 : decode yB 26 = .ok (.aload_n 2, 1) := by decide +kernel
theorem d27 : decode yB 27 = .ok (.iload_n 3, 1) := by decide +kernel
theorem d28 : decode yB 28 = .ok (.iload 6, 2) := by decide +kernel
theorem d30 : decode yB 30 = .ok (.i2b, 1) := by decide +kernel
theorem d31 : decode yB 31 = .ok (.bastore, 1) := by decide +kernel
theorem d32 : decode yB 32 = .ok (.iinc 1 1, 3) := by decide +kernel
theorem d35 : decode yB 35 = .ok (.iinc 3 1, 3) := by decide +kernel
theorem d38 : decode yB 38 = .ok (.iinc 5 1, 3) := by decide +kernel
theorem d41 : decode yB 41 = .ok (.goto (-38), 3) := by decide +kernel
theorem d44 : decode yB 44 = .ok (.iload 4, 2) := by decide +kernel
theorem d46 : decode yB 46 = .ok (.ireturn, 1) := by decide +kernel
def site : List Cond := []
def tab : Cond := tabOf yN yB 7 (some .int) site
def P (b : Addr) (A : Cell) (d : Addr) (B : Cell) (o q len : Nat) (args : Array Value) (s : State) : Prop := args = #[.ref b, .int (Int32.ofNat o), .ref d, .int (Int32.ofNat q), .int (Int32.ofNat len)] ∧ Ch b A s ∧ Arr .byte d B s ∧ b ≠ d ∧ o + len ≤ A.slots.size ∧ q + len ≤ B.slots.size ∧ ∀ i, i < len → ¬ 255 < cv A (o + i)
def E (b : Addr) (A : Cell) (d : Addr) (B : Cell) (o q len : Nat) (r : Option Value) (s u : State) : Prop := r = some (.int (Int32.ofNat len)) ∧ ∃ B', Put d B' s u ∧ Laid B B' q (q + len) (fun j => Value.int (lo8 (cv A (o + (j - q)))))
/-- no char of the range above 255: len; the places written hold each char's low byte -/
theorem law (l : Launch) (b : Addr) (A : Cell) (d : Addr) (B : Cell) (o q len : Nat) : Law l yN 5 5 0 0 yB 7 (some .int) site (P b A d B o q len) (E b A d B o q len) (copyLocs d q len) 0 0 := by
  refine Law.of_walk (plainFor_of_name (by decide +kernel)) (by decide +kernel) (by decide +kernel) (by decide) (fun _ _ h => by rw [h.1]; rfl) (fun _ U U' hal hh h => ⟨h.1, h.2.1.mv hal hh, h.2.2.1.mv hal hh, h.2.2.2⟩) (fun r U U' V V' h1 hal h2 h => ⟨h.1, h.2.elim fun B' q => ⟨B', q.1.mv h1 h2, q.2⟩⟩) ?_
  intro p e s m args below meth c s₁ X0 hexec hbytes hml hret hlk hnm hown hh0 W hP
  obtain ⟨rfl, hA, hB, hne, l1, l2, hp⟩ := hP
  have c1 : Steps p.tables e below (s₁.setTop (entryFrame m #[.ref b, .int (Int32.ofNat o), .ref d, .int (Int32.ofNat q), .int (Int32.ofNat len)] 7)) (s₁.setTop (mkF m 0 #[.val (.ref b), .val (.int (Int32.ofNat o)), .val (.ref d), .val (.int (Int32.ofNat q)), .val (.int (Int32.ofNat len)), .unset, .unset] [])) := entry rfl
  have hA0 := hA.1.mv X0.warmed.alike hh0
  have hB0 := hB.mv X0.warmed.alike hh0
  have a31 := hA.1.2.2.2
  have c2 : Steps p.tables e below (s₁.setTop (entryFrame m #[.ref b, .int (Int32.ofNat o), .ref d, .int (Int32.ofNat q), .int (Int32.ofNat len)] 7)) (s₁.setTop (mkF m 3 #[.val (.ref b), .val (.int (Int32.ofNat o)), .val (.ref d), .val (.int (Int32.ofNat q)), .val (.int (Int32.ofNat len)), .val (.int 0), .unset] [])) := c1.trans (by
    refine iconstV X0.here hexec rfl 0 (hb hbytes d0) (by decide) ?_
    refine XS.istore X0.here hexec rfl (hb hbytes d1) rfl rfl ?_
    exact Steps.refl _)
  have loop : ∀ (r i : Nat), i + r = len → ∀ (z : Slot), (z = .unset ∨ ∃ w, z = .val w ∧ w.category = 1) → ∀ (Tl : State) (Bk : Cell), Stand p l e { frames := 0, locals := 0, cells := 0, slots := 0 } s m #[.ref b, .int (Int32.ofNat o), .ref d, .int (Int32.ofNat q), .int (Int32.ofNat len)] below meth c Tl ([] ++ copyLocs d q i) 0 0 → Put d Bk s₁ Tl → Laid B Bk q (q + i) (fun j => Value.int (lo8 (cv A (o + (j - q))))) →
      Steps p.tables e below (s₁.setTop (entryFrame m #[.ref b, .int (Int32.ofNat o), .ref d, .int (Int32.ofNat q), .int (Int32.ofNat len)] 7)) (Tl.setTop (mkF m 3 #[.val (.ref b), .val (.int (Int32.ofNat (o + i))), .val (.ref d), .val (.int (Int32.ofNat (q + i))), .val (.int (Int32.ofNat len)), .val (.int (Int32.ofNat i)), z] [])) → ∃ (T' : State) (B' : Cell) (z' : Slot), Stand p l e { frames := 0, locals := 0, cells := 0, slots := 0 } s m #[.ref b, .int (Int32.ofNat o), .ref d, .int (Int32.ofNat q), .int (Int32.ofNat len)] below meth c T' ([] ++ copyLocs d q len) 0 0 ∧ Put d B' s₁ T' ∧ Laid B B' q (q + len) (fun j => Value.int (lo8 (cv A (o + (j - q))))) ∧
      Steps p.tables e below (s₁.setTop (entryFrame m #[.ref b, .int (Int32.ofNat o), .ref d, .int (Int32.ofNat q), .int (Int32.ofNat len)] 7)) (T'.setTop (mkF m 3 #[.val (.ref b), .val (.int (Int32.ofNat (o + len))), .val (.ref d), .val (.int (Int32.ofNat (q + len))), .val (.int (Int32.ofNat len)), .val (.int (Int32.ofNat len)), z'] [])) := by
    intro r
    induction r with
    | zero =>
      intro i hi z hz Tl Bk Xl pl fl cl
      have hil : i = len := by omega
      rw [hil] at Xl fl cl
      exact ⟨Tl, Bk, z, Xl, pl, fl, cl⟩
    | succ r ih =>
      intro i hi z hz Tl Bk Xl pl fl cl
      have all := X0.warmed.alike.symm.trans Xl.warmed.alike
      have hAl := hA0.keep all (pl.other hne hA0.1)
      have hBk := hB0.like all pl.1 fl.1 fl.2.1 fl.2.2.1
      have hlt : q + i < Bk.slots.size := by rw [fl.2.2.1]; omega
      have c3 : Steps p.tables e below (s₁.setTop (entryFrame m #[.ref b, .int (Int32.ofNat o), .ref d, .int (Int32.ofNat q), .int (Int32.ofNat len)] 7)) (Tl.setTop (mkF m 12 #[.val (.ref b), .val (.int (Int32.ofNat (o + i))), .val (.ref d), .val (.int (Int32.ofNat (q + i))), .val (.int (Int32.ofNat len)), .val (.int (Int32.ofNat i)), z] [.int (Int32.ofNat (o + i)), .ref b])) := cl.trans (by
        refine XS.iload Xl.here hexec rfl (hb hbytes d3) rfl ?_
        refine XS.iload Xl.here hexec rfl (hb hbytes d5) rfl ?_
        refine XS.icmpNo Xl.here hexec rfl (hb hbytes d7) rfl (ii_ge_f (lt32 (by omega) (by omega))) ?_
        refine XS.aloadN Xl.here hexec rfl (hb hbytes d10) rfl rfl ?_
        refine XS.iloadN Xl.here hexec rfl (hb hbytes d11) rfl ?_
        exact Steps.refl _)
      have c4 : Steps p.tables e below (s₁.setTop (entryFrame m #[.ref b, .int (Int32.ofNat o), .ref d, .int (Int32.ofNat q), .int (Int32.ofNat len)] 7)) (Tl.setTop (mkF m 13 #[.val (.ref b), .val (.int (Int32.ofNat (o + i))), .val (.ref d), .val (.int (Int32.ofNat (q + i))), .val (.int (Int32.ofNat len)), .val (.int (Int32.ofNat i)), z] [.int (cv A (o + i))])) := c3.trans (by
        refine Xl.aget hexec hAl rfl (hA.get (i := o + i) (by omega)) rfl rfl (hb hbytes d12) ?_
        exact Steps.refl _)
      have c5 : Steps p.tables e below (s₁.setTop (entryFrame m #[.ref b, .int (Int32.ofNat o), .ref d, .int (Int32.ofNat q), .int (Int32.ofNat len)] 7)) (Tl.setTop (mkF m 15 #[.val (.ref b), .val (.int (Int32.ofNat (o + i))), .val (.ref d), .val (.int (Int32.ofNat (q + i))), .val (.int (Int32.ofNat len)), .val (.int (Int32.ofNat i)), .val (.int (cv A (o + i)))] [])) := c4.trans (by
        refine XS.istoreS Xl.here hexec rfl (hb hbytes d13) rfl rfl hz ?_
        exact Steps.refl _)
      have c6 : Steps p.tables e below (s₁.setTop (entryFrame m #[.ref b, .int (Int32.ofNat o), .ref d, .int (Int32.ofNat q), .int (Int32.ofNat len)] 7)) (Tl.setTop (mkF m 31 #[.val (.ref b), .val (.int (Int32.ofNat (o + i))), .val (.ref d), .val (.int (Int32.ofNat (q + i))), .val (.int (Int32.ofNat len)), .val (.int (Int32.ofNat i)), .val (.int (cv A (o + i)))] [.int (lo8 (cv A (o + i))), .int (Int32.ofNat (q + i)), .ref d])) := c5.trans (by
        refine XS.iload Xl.here hexec rfl (hb hbytes d15) rfl ?_
        refine sipushV Xl.here hexec rfl 255 (hb hbytes d17) (by decide) ?_
        refine XS.icmpYes Xl.here hexec rfl (pc0 := 20) rfl (hb hbytes d20) rfl (ii_le_t (hp i (by omega))) (by decide) rfl ?_
        refine XS.aloadN Xl.here hexec rfl (hb hbytes d26) rfl rfl ?_
        refine XS.iloadN Xl.here hexec rfl (hb hbytes d27) rfl ?_
        refine XS.iload Xl.here hexec rfl (hb hbytes d28) rfl ?_
        refine i2b Xl.here hexec rfl (hb hbytes d30) rfl ?_
        exact Steps.refl _)
      obtain ⟨T7, X7, p7, st7⟩ := Xl.aput hexec hBk rfl hlt rfl (fits_lo8 (cv A (o + i))) (g := (mkF m 31 #[.val (.ref b), .val (.int (Int32.ofNat (o + i))), .val (.ref d), .val (.int (Int32.ofNat (q + i))), .val (.int (Int32.ofNat len)), .val (.int (Int32.ofNat i)), .val (.int (cv A (o + i)))] [.int (lo8 (cv A (o + i))), .int (Int32.ofNat (q + i)), .ref d])) rfl (rest := []) rfl (hb hbytes d31)
      have c8 : Steps p.tables e below (s₁.setTop (entryFrame m #[.ref b, .int (Int32.ofNat o), .ref d, .int (Int32.ofNat q), .int (Int32.ofNat len)] 7)) (T7.setTop (mkF m 32 #[.val (.ref b), .val (.int (Int32.ofNat (o + i))), .val (.ref d), .val (.int (Int32.ofNat (q + i))), .val (.int (Int32.ofNat len)), .val (.int (Int32.ofNat i)), .val (.int (cv A (o + i)))] [])) := c6.trans (st7 _ (Steps.refl _))
      have c9 : Steps p.tables e below (s₁.setTop (entryFrame m #[.ref b, .int (Int32.ofNat o), .ref d, .int (Int32.ofNat q), .int (Int32.ofNat len)] 7)) (T7.setTop (mkF m 3 #[.val (.ref b), .val (.int (Int32.ofNat (o + i) + 1)), .val (.ref d), .val (.int (Int32.ofNat (q + i) + 1)), .val (.int (Int32.ofNat len)), .val (.int (Int32.ofNat i + 1)), .val (.int (cv A (o + i)))] [])) := c8.trans (by
        refine iincV X7.here hexec rfl 1 (hb hbytes d32) (by decide) rfl rfl ?_
        refine iincV X7.here hexec rfl 1 (hb hbytes d35) (by decide) rfl rfl ?_
        refine iincV X7.here hexec rfl 1 (hb hbytes d38) (by decide) rfl rfl ?_
        refine XS.goto X7.here hexec rfl (pc0 := 41) rfl (hb hbytes d41) (by decide) rfl ?_
        exact Steps.refl _)
      have c10 : Steps p.tables e below (s₁.setTop (entryFrame m #[.ref b, .int (Int32.ofNat o), .ref d, .int (Int32.ofNat q), .int (Int32.ofNat len)] 7)) (T7.setTop (mkF m 3 #[.val (.ref b), .val (.int (Int32.ofNat (o + (i + 1)))), .val (.ref d), .val (.int (Int32.ofNat (q + (i + 1)))), .val (.int (Int32.ofNat len)), .val (.int (Int32.ofNat (i + 1))), .val (.int (cv A (o + i)))] [])) := by
        have := c9
        rw [succ32, succ32, succ32] at this
        exact this
      exact ih (i + 1) (by omega) _ (Or.inr ⟨_, rfl, rfl⟩) T7 _ (by rw [copyLocs_step, ← List.append_assoc]; exact X7) (pl.trans p7) (fl.step (by omega) hlt (by simp)) c10
  obtain ⟨T9, B9, z9, X9, p9, f9, g9⟩ := loop len 0 (by omega) .unset (Or.inl rfl) s₁ B (by simpa [copyLocs] using X0) ⟨hB0.1, fun _ _ => rfl, rfl⟩ (Laid.zero _ _ _) c2
  have c11 : Steps p.tables e below (s₁.setTop (entryFrame m #[.ref b, .int (Int32.ofNat o), .ref d, .int (Int32.ofNat q), .int (Int32.ofNat len)] 7)) (T9.setTop (mkF m 46 #[.val (.ref b), .val (.int (Int32.ofNat (o + len))), .val (.ref d), .val (.int (Int32.ofNat (q + len))), .val (.int (Int32.ofNat len)), .val (.int (Int32.ofNat len)), z9] [.int (Int32.ofNat len)])) := g9.trans (by
    refine XS.iload X9.here hexec rfl (hb hbytes d3) rfl ?_
    refine XS.iload X9.here hexec rfl (hb hbytes d5) rfl ?_
    refine XS.icmpYes X9.here hexec rfl (pc0 := 7) rfl (hb hbytes d7) rfl (ii_ge_t (nlt32 (by omega) (Nat.le_refl _))) (by decide) rfl ?_
    refine XS.iload X9.here hexec rfl (hb hbytes d44) rfl ?_
    exact Steps.refl _)
  exact ⟨T9, some (.int (Int32.ofNat len)), _, _, _, X9, by simp, rfl, rfl, (fun h => by cases h), ⟨rfl, B9, p9.from hh0, f9⟩, fun fs hl => c11.trans (X9.ireturnOut hexec hret rfl (Or.inl rfl) (hb hbytes d46) hl)⟩
end Cmp5
namespace Cmp3
def yN : MethodName := ⟨"java/lang/StringUTF16", "compress", "([CII)[B"⟩
abbrev yB : ByteArray := jdk_52_method_16_code
theorem d0 : decode yB 0 = .ok (.iload_n 2, 1) := by decide +kernel
theorem d1 : decode yB 1 = .ok (.newarray .byte, 2) := by decide +kernel
theorem d3 : decode yB 3 = .ok (.astore_n 3, 1) := by decide +kernel
theorem d4 : decode yB 4 = .ok (.aload_n 0, 1) := by decide +kernel
theorem d5 : decode yB 5 = .ok (.iload_n 1, 1) := by decide +kernel
theorem d6 : decode yB 6 = .ok (.aload_n 3, 1) := by decide +kernel
theorem d7 : decode yB 7 = .ok (.iconst 0, 1) := by decide +kernel
theorem d8 : decode yB 8 = .ok (.iload_n 2, 1) := by decide +kernel
theorem d9 : decode yB 9 = .ok (.invokestatic 115, 3) := by decide +kernel
theorem d12 : decode yB 12 = .ok (.istore 4, 2) := by decide +kernel
theorem d14 : decode yB 14 = .ok (.iload 4, 2) := by decide +kernel
theorem d16 : decode yB 16 = .ok (.iload_n 2, 1) := by decide +kernel
theorem d17 : decode yB 17 = .ok (.if_icmp (.eq) 40, 3) := by decide +kernel
theorem d57 : decode yB 57 = .ok (.aload_n 3, 1) := by decide +kernel
theorem d58 : decode yB 58 = .ok (.areturn, 1) := by decide +kernel
def site : List Cond := [.arrayClass .byte, Cmp5.tab] ++ staticW U16 115 Cmp5.yN
def tab : Cond := tabOf yN yB 6 (some (.array .byte)) site
def P (b : Addr) (A : Cell) (o len : Nat) (args : Array Value) (s : State) : Prop := args = #[.ref b, .int (Int32.ofNat o), .int (Int32.ofNat len)] ∧ Ch b A s ∧ o + len ≤ A.slots.size ∧ len ≤ 536870912 ∧ ∀ i, i < len → ¬ 255 < cv A (o + i)
def E (b : Addr) (A : Cell) (o len : Nat) (r : Option Value) (s u : State) : Prop := NewArr .byte "[B" len (fun j => .int (lo8 (cv A (o + j)))) r s u ∧ u.heap.size = s.heap.size + 1
/-- no char of the range above 255: a new byte[] of their low bytes -/
theorem law (l : Launch) (b : Addr) (A : Cell) (o len : Nat) : Law l yN 3 3 1 18 yB 6 (some (.array .byte)) site (P b A o len) (E b A o len) [] 1 len := by
  refine Law.of_walk (plainFor_of_name (by decide +kernel)) (by decide +kernel) (by decide +kernel) (by decide) (fun _ _ h => by rw [h.1]; rfl) (fun _ U U' hal hh h => ⟨h.1, h.2.1.mv hal hh, h.2.2⟩) (fun r U U' V V' h1 hal h2 h => ⟨NewArr.mv r U U' V V' h1 hal h2 h.1, by rw [h1, h2]; exact h.2⟩) ?_
  intro p e s m args below meth c s₁ X0 hexec hbytes hml hret hlk hnm hown hh0 W hP
  obtain ⟨rfl, hA, l1, l2, hp⟩ := hP
  have a31 := hA.1.2.2.2
  have c1 : Steps p.tables e below (s₁.setTop (entryFrame m #[.ref b, .int (Int32.ofNat o), .int (Int32.ofNat len)] 6)) (s₁.setTop (mkF m 0 #[.val (.ref b), .val (.int (Int32.ofNat o)), .val (.int (Int32.ofNat len)), .unset, .unset, .unset] [])) := entry rfl
  have c2 : Steps p.tables e below (s₁.setTop (entryFrame m #[.ref b, .int (Int32.ofNat o), .int (Int32.ofNat len)] 6)) (s₁.setTop (mkF m 1 #[.val (.ref b), .val (.int (Int32.ofNat o)), .val (.int (Int32.ofNat len)), .unset, .unset, .unset] [.int (Int32.ofNat len)])) := c1.trans (by
    refine XS.iloadN X0.here hexec rfl (hb hbytes d0) rfl ?_
    exact Steps.refl _)
  obtain ⟨T3, B3, X3, ba3, bs3, bv3, bh3, bf3, st3⟩ := X0.anew hexec (atype := .byte) (wk W (.arrayClass .byte)) rfl (by show len * 1 ≤ _; omega) (by omega) (g := (mkF m 1 #[.val (.ref b), .val (.int (Int32.ofNat o)), .val (.int (Int32.ofNat len)), .unset, .unset, .unset] [.int (Int32.ofNat len)])) rfl (hb hbytes d1) (rest := []) rfl (Nat.le_refl _) (by show 0 + len ≤ len; omega)
  rw [hh0] at ba3 st3
  have kp3 : XT.Kept s T3 := (XT.Kept.of_eq hh0).push bh3
  have hA3 := hA.keep X3.warmed.alike (kp3 _ _ hA.1.1)
  have hne : b ≠ s.heap.size := hA.1.ne
  have c4 : Steps p.tables e below (s₁.setTop (entryFrame m #[.ref b, .int (Int32.ofNat o), .int (Int32.ofNat len)] 6)) (T3.setTop (mkF m 3 #[.val (.ref b), .val (.int (Int32.ofNat o)), .val (.int (Int32.ofNat len)), .unset, .unset, .unset] [.ref s.heap.size])) := c2.trans (st3 _ (Steps.refl _))
  have c5 : Steps p.tables e below (s₁.setTop (entryFrame m #[.ref b, .int (Int32.ofNat o), .int (Int32.ofNat len)] 6)) (T3.setTop (mkF m 9 #[.val (.ref b), .val (.int (Int32.ofNat o)), .val (.int (Int32.ofNat len)), .val (.ref s.heap.size), .unset, .unset] [.int (Int32.ofNat len), .int 0, .ref s.heap.size, .int (Int32.ofNat o), .ref b])) := c4.trans (by
    refine XS.astoreN X3.here hexec rfl (hb hbytes d3) rfl rfl rfl ?_
    refine XS.aloadN X3.here hexec rfl (hb hbytes d4) rfl rfl ?_
    refine XS.iloadN X3.here hexec rfl (hb hbytes d5) rfl ?_
    refine XS.aloadN X3.here hexec rfl (hb hbytes d6) rfl rfl ?_
    refine iconstV X3.here hexec rfl 0 (hb hbytes d7) (by decide) ?_
    refine XS.iloadN X3.here hexec rfl (hb hbytes d8) rfl ?_
    exact Steps.refl _)
  obtain ⟨v6, T6, X6, E6, g6⟩ := X3.callS hexec (Cmp5.law l b A s.heap.size B3 o 0 len) hown (wks W (staticW U16 115 Cmp5.yN)) (wk W Cmp5.tab) (W := 0) (Nat.le_of_ble_eq_true rfl) (Nat.le_of_ble_eq_true rfl) (Nat.le_refl _) (by show 0 + len + 0 ≤ len; omega) (g := (mkF m 9 #[.val (.ref b), .val (.int (Int32.ofNat o)), .val (.int (Int32.ofNat len)), .val (.ref s.heap.size), .unset, .unset] [.int (Int32.ofNat len), .int (Int32.ofNat 0), .ref s.heap.size, .int (Int32.ofNat o), .ref b])) rfl (by rw [hml]; rfl) c5 (argsL := [.ref b, .int (Int32.ofNat o), .ref s.heap.size, .int (Int32.ofNat 0), .int (Int32.ofNat len)]) (rest := []) rfl rfl (by show 2 * 0 + 0 ≤ _; decide) (hb hbytes d9) (⟨rfl, hA3, ba3, hne, l1, by rw [bs3]; simp, hp⟩)
  obtain ⟨rfl, B6, p6, f6⟩ := E6
  have c7 : Steps p.tables e below (s₁.setTop (entryFrame m #[.ref b, .int (Int32.ofNat o), .int (Int32.ofNat len)] 6)) (T6.setTop (mkF m 12 #[.val (.ref b), .val (.int (Int32.ofNat o)), .val (.int (Int32.ofNat len)), .val (.ref s.heap.size), .unset, .unset] [.int (Int32.ofNat len)])) := g6
  have c8 : Steps p.tables e below (s₁.setTop (entryFrame m #[.ref b, .int (Int32.ofNat o), .int (Int32.ofNat len)] 6)) (T6.setTop (mkF m 58 #[.val (.ref b), .val (.int (Int32.ofNat o)), .val (.int (Int32.ofNat len)), .val (.ref s.heap.size), .val (.int (Int32.ofNat len)), .unset] [.ref s.heap.size])) := c7.trans (by
    refine XS.istore X6.here hexec rfl (hb hbytes d12) rfl rfl ?_
    refine XS.iload X6.here hexec rfl (hb hbytes d14) rfl ?_
    refine XS.iloadN X6.here hexec rfl (hb hbytes d16) rfl ?_
    refine XS.icmpYes X6.here hexec rfl (pc0 := 17) rfl (hb hbytes d17) rfl (ii_eq_t rfl) (by decide) rfl ?_
    refine XS.aloadN X6.here hexec rfl (hb hbytes d57) rfl rfl ?_
    exact Steps.refl _)
  have X8 := X6.wide (L' := []) (cells' := 1) (slots' := len) (fun x hx hlt => by
    simp only [List.nil_append, copyLocs, List.mem_map, List.mem_range] at hx
    obtain ⟨i, -, rfl⟩ := hx
    exact absurd hlt (Nat.lt_irrefl _)) (Nat.le_refl _) (by omega)
  exact ⟨T6, some (.ref s.heap.size), _, _, _, X8, rfl, rfl, rfl, (fun h => by cases h), ⟨⟨rfl, B6, ba3.like (X3.warmed.alike.symm.trans X6.warmed.alike) p6.1 f6.1 f6.2.1 f6.2.2.1, f6.2.1.trans bv3, by rw [X6.warmed.alike.findClass, f6.1]; exact bf3, by rw [f6.2.2.1, bs3]; simp, fun j hj => by rw [f6.2.2.2 j, if_pos (by omega)]; rfl, kp3.put p6 (Nat.le_refl _)⟩, by rw [p6.2.2, bh3, hh0]; simp⟩, fun fs hl => c8.trans (X8.areturnOut hexec rfl hret rfl (hb hbytes d58) hl)⟩
end Cmp3
namespace CodL
def yN : MethodName := ⟨"java/lang/StringUTF16", "coderFromArrayLen", "([BI)B"⟩
abbrev yB : ByteArray := jdk_52_method_15_code
theorem d0 : decode yB 0 = .ok (.iload_n 1, 1) := by decide +kernel
theorem d1 : decode yB 1 = .ok (.aload_n 0, 1) := by decide +kernel
theorem d2 : decode yB 2 = .ok (.arraylength, 1) := by decide +kernel
theorem d3 : decode yB 3 = .ok (.isub, 1) := by decide +kernel
theorem d4 : decode yB 4 = .ok (.bipush 31, 2) := by decide +kernel
theorem d6 : decode yB 6 = .ok (.iushr, 1) := by decide +kernel
theorem d7 : decode yB 7 = .ok (.i2b, 1) := by decide +kernel
theorem d8 : decode yB 8 = .ok (.ireturn, 1) := by decide +kernel
def site : List Cond := []
def tab : Cond := tabOf yN yB 2 (some .byte) site
def P (d : Addr) (B : Cell) (args : Array Value) (s : State) : Prop := args = #[.ref d, .int (Int32.ofNat B.slots.size)] ∧ Arr .byte d B s
def E (r : Option Value) (s u : State) : Prop := XT.PureE (some (.int 0)) r s u
/-- an array as long as the number of chars: LATIN1 -/
theorem law (l : Launch) (d : Addr) (B : Cell) : Law l yN 2 2 0 0 yB 2 (some .byte) site (P d B) E [] 0 0 := by
  refine Law.of_walk (plainFor_of_name (by decide +kernel)) (by decide +kernel) (by decide +kernel) (by decide) (fun _ _ h => by rw [h.1]; rfl) (fun _ U U' hal hh h => ⟨h.1, h.2.mv hal hh⟩) (fun r U U' V V' h1 hal h2 h => XT.PureE.mv r U U' V V' h1 hal h2 h) ?_
  intro p e s m args below meth c s₁ X0 hexec hbytes hml hret hlk hnm hown hh0 W hP
  obtain ⟨rfl, hB⟩ := hP
  have hB0 := hB.mv X0.warmed.alike hh0
  have c1 : Steps p.tables e below (s₁.setTop (entryFrame m #[.ref d, .int (Int32.ofNat B.slots.size)] 2)) (s₁.setTop (mkF m 0 #[.val (.ref d), .val (.int (Int32.ofNat B.slots.size))] [])) := entry rfl
  have c2 : Steps p.tables e below (s₁.setTop (entryFrame m #[.ref d, .int (Int32.ofNat B.slots.size)] 2)) (s₁.setTop (mkF m 2 #[.val (.ref d), .val (.int (Int32.ofNat B.slots.size))] [.ref d, .int (Int32.ofNat B.slots.size)])) := c1.trans (by
    refine XS.iloadN X0.here hexec rfl (hb hbytes d0) rfl ?_
    refine XS.aloadN X0.here hexec rfl (hb hbytes d1) rfl rfl ?_
    exact Steps.refl _)
  have c3 : Steps p.tables e below (s₁.setTop (entryFrame m #[.ref d, .int (Int32.ofNat B.slots.size)] 2)) (s₁.setTop (mkF m 8 #[.val (.ref d), .val (.int (Int32.ofNat B.slots.size))] [.int (lo8 (ushr (Int32.ofNat B.slots.size - Int32.ofNat B.slots.size) 31))])) := c2.trans (by
    refine X0.alen hexec hB0 rfl rfl (hb hbytes d2) ?_
    refine XS.isub X0.here hexec rfl (hb hbytes d3) rfl ?_
    refine bipushV X0.here hexec rfl 31 (hb hbytes d4) (by decide) ?_
    refine iushr X0.here hexec rfl (hb hbytes d6) rfl ?_
    refine i2b X0.here hexec rfl (hb hbytes d7) rfl ?_
    exact Steps.refl _)
  have e0 : lo8 (ushr (Int32.ofNat B.slots.size - Int32.ofNat B.slots.size) 31) = 0 := by rw [Int32.sub_self]; decide
  rw [e0] at c3
  exact ⟨s₁, some (.int 0), _, _, _, X0, rfl, rfl, rfl, (fun h => by cases h), ⟨rfl, hh0⟩, fun fs hl => c3.trans (X0.ireturnOut hexec hret rfl (Or.inr (Or.inr (Or.inl rfl))) (hb hbytes d8) hl)⟩
end CodL
/-- the String at a is Latin-1 over a new byte[] (the heap's one new cell): the low bytes of the len chars of A from o on; every cell but a is kept -/
def Got (a : Addr) (D : Cell) (fV fC : Field) (A : Cell) (o len : Nat) (r : Option Value) (s u : State) : Prop := r = none ∧ ∃ D' V : Cell, Blank "java/lang/String" a D' u ∧ Same D D' [fV.slot, fC.slot] ∧ D'.slots[fV.slot]? = some (.ref s.heap.size) ∧ D'.slots[fC.slot]? = some (.int 0) ∧ Arr .byte s.heap.size V u ∧ V.vm = .none ∧ u.vm.findClass "[B" = some V.cls ∧ V.slots.size = len ∧ (∀ j, j < len → V.slots[j]? = some (.int (lo8 (cv A (o + j))))) ∧ (∀ (y : Addr) (c : Cell), y ≠ a → s.heap[y]? = some c → u.heap[y]? = some c) ∧ u.heap.size = s.heap.size + 1
theorem Got.mv {a : Addr} {D A : Cell} {fV fC : Field} {o len : Nat} : ∀ r (U U' V V' : State), U'.heap = U.heap → V.vm.Alike V'.vm → V'.heap = V.heap → Got a D fV fC A o len r U V → Got a D fV fC A o len r U' V' :=
  fun r U U' V V' h1 hal h2 ⟨e0, D', X, a1, a2, a3, a4, a5, a6, a7, a8, a9, a10, a11⟩ => ⟨e0, D', X, a1.mv hal h2, a2, by rw [h1]; exact a3, a4, by rw [h1]; exact a5.mv hal h2, a6, by rw [hal.findClass]; exact a7, a8, a9, by rw [h1, h2]; exact a10, by rw [h1, h2]; exact a11⟩
namespace New4
def yN : MethodName := ⟨"java/lang/String", "<init>", "([CIILjava/lang/Void;)V"⟩
abbrev yB : ByteArray := jdk_42_method_149_code
theorem d0 : decode yB 0 = .ok (.aload_n 0, 1) := by decide +kernel
theorem d1 : decode yB 1 = .ok (.invokespecial 1, 3) := by decide +kernel
theorem d4 : decode yB 4 = .ok (.iload_n 3, 1) := by decide +kernel
theorem d5 : decode yB 5 = .ok (.ifCond (.ne) 22, 3) := by decide +kernel
theorem d27 : decode yB 27 = .ok (.getstatic 38, 3) := by decide +kernel
theorem d30 : decode yB 30 = .ok (.ifCond (.eq) 28, 3) := by decide +kernel
theorem d33 : decode yB 33 = .ok (.aload_n 1, 1) := by decide +kernel
theorem d34 : decode yB 34 = .ok (.iload_n 2, 1) := by decide +kernel
theorem d35 : decode yB 35 = .ok (.iload_n 3, 1) := by decide +kernel
theorem d36 : decode yB 36 = .ok (.invokestatic 177, 3) := by decide +kernel
theorem d39 : decode yB 39 = .ok (.astore 5, 2) := by decide +kernel
theorem d41 : decode yB 41 = .ok (.aload_n 0, 1) := by decide +kernel
theorem d42 : decode yB 42 = .ok (.aload 5, 2) := by decide +kernel
theorem d44 : decode yB 44 = .ok (.iload_n 3, 1) := by decide +kernel
theorem d45 : decode yB 45 = .ok (.invokestatic 47, 3) := by decide +kernel
theorem d48 : decode yB 48 = .ok (.putfield 15, 3) := by decide +kernel
theorem d51 : decode yB 51 = .ok (.aload_n 0, 1) := by decide +kernel
theorem d52 : decode yB 52 = .ok (.aload 5, 2) := by decide +kernel
theorem d54 : decode yB 54 = .ok (.putfield 9, 3) := by decide +kernel
theorem d57 : decode yB 57 = .ok (.return_, 1) := by decide +kernel
def site : List Cond := [.fieldLink "java/lang/String" 38 "java/lang/String" "COMPACT_STRINGS" "Z", Cmp3.tab, CodL.tab, .laysFinal "java/lang/String" "java/lang/String" "value" "[B", .fieldLink "java/lang/String" 9 "java/lang/String" "value" "[B", .laysFinal "java/lang/String" "java/lang/String" "coder" "B", .fieldLink "java/lang/String" 15 "java/lang/String" "coder" "B"] ++ objW "java/lang/String" 1 ++ staticW "java/lang/String" 177 Cmp3.yN ++ staticW "java/lang/String" 47 CodL.yN
def tab : Cond := tabOf yN yB 6 none site
def P (a : Addr) (D : Cell) (fV fC : Field) (b : Addr) (A : Cell) (z : Int32) (o len : Nat) (args : Array Value) (s : State) : Prop := args = #[.ref a, .ref b, .int (Int32.ofNat o), .int (Int32.ofNat len), .null] ∧ Blank "java/lang/String" a D s ∧ Found "java/lang/String" "value" "[B" fV s ∧ Found "java/lang/String" "coder" "B" fC s ∧ Ch b A s ∧ StaticIs s "java/lang/String" "COMPACT_STRINGS" "Z" (.int z) ∧ ¬ z = 0 ∧ 0 < len ∧ o + len ≤ A.slots.size ∧ len ≤ 536870912 ∧ ∀ i, i < len → ¬ 255 < cv A (o + i)
def E (a : Addr) (D : Cell) (fV fC : Field) (A : Cell) (o len : Nat) (r : Option Value) (s u : State) : Prop := Got a D fV fC A o len r s u
/-- len > 0, no char of the range above 255: a Latin-1 String of their low bytes -/
theorem law (l : Launch) (a : Addr) (D : Cell) (fV fC : Field) (b : Addr) (A : Cell) (z : Int32) (o len : Nat) : Law l yN 5 4 2 35 yB 6 none site (P a D fV fC b A z o len) (E a D fV fC A o len) [⟨a, fC.slot⟩, ⟨a, fV.slot⟩] 1 len := by
  refine Law.of_walk (plainFor_of_name (by decide +kernel)) (by decide +kernel) (by decide +kernel) (by decide) (fun _ _ h => by rw [h.1]; rfl) (fun _ U U' hal hh h => ⟨h.1, h.2.1.mv hal hh, h.2.2.1.al hal, h.2.2.2.1.al hal, h.2.2.2.2.1.mv hal hh, h.2.2.2.2.2.1.there hal hh, h.2.2.2.2.2.2⟩) (fun r U U' V V' h1 hal h2 h => Got.mv r U U' V V' h1 hal h2 h) ?_
  intro p e s m args below meth c s₁ X0 hexec hbytes hml hret hlk hnm hown hh0 W hP
  obtain ⟨rfl, hB, f1, f2, hA, s1, hz, l0, l1, l2, hp⟩ := hP
  have a31 := hA.1.2.2.2
  have c1 : Steps p.tables e below (s₁.setTop (entryFrame m #[.ref a, .ref b, .int (Int32.ofNat o), .int (Int32.ofNat len), .null] 6)) (s₁.setTop (mkF m 0 #[.val (.ref a), .val (.ref b), .val (.int (Int32.ofNat o)), .val (.int (Int32.ofNat len)), .val .null, .unset] [])) := entry rfl
  have c2 : Steps p.tables e below (s₁.setTop (entryFrame m #[.ref a, .ref b, .int (Int32.ofNat o), .int (Int32.ofNat len), .null] 6)) (s₁.setTop (mkF m 1 #[.val (.ref a), .val (.ref b), .val (.int (Int32.ofNat o)), .val (.int (Int32.ofNat len)), .val .null, .unset] [.ref a])) := c1.trans (by
    refine XS.aloadN X0.here hexec rfl (hb hbytes d0) rfl rfl ?_
    exact Steps.refl _)
  obtain ⟨T3, X3, q3, st3⟩ := X0.oinit hexec hown (wks W (objW "java/lang/String" 1)) (g := (mkF m 1 #[.val (.ref a), .val (.ref b), .val (.int (Int32.ofNat o)), .val (.int (Int32.ofNat len)), .val .null, .unset] [.ref a])) rfl (by rw [hml]; rfl) (rest := []) rfl (hb hbytes d1) (W := 0) (by show 2 * 0 + 0 ≤ _; decide) (Nat.le_of_ble_eq_true rfl) (Nat.le_of_ble_eq_true rfl)
  have hh3 := q3.trans hh0
  have c4 : Steps p.tables e below (s₁.setTop (entryFrame m #[.ref a, .ref b, .int (Int32.ofNat o), .int (Int32.ofNat len), .null] 6)) (T3.setTop (mkF m 27 #[.val (.ref a), .val (.ref b), .val (.int (Int32.ofNat o)), .val (.int (Int32.ofNat len)), .val .null, .unset] [])) := (c2.trans (st3 _ (Steps.refl _))).trans (by
    refine XS.iloadN X3.here hexec rfl (hb hbytes d4) rfl ?_
    refine XS.ifYes X3.here hexec rfl (pc0 := 5) rfl (hb hbytes d5) rfl (i0_ne_t (nz32 (by omega) l0)) (by decide) rfl ?_
    exact Steps.refl _)
  obtain ⟨T5, X5, q5, st5⟩ := X3.sget hexec hown (wk W (.fieldLink "java/lang/String" 38 "java/lang/String" "COMPACT_STRINGS" "Z")) s1 (fun _ _ h => by rw [hh3]; exact h) (g := (mkF m 27 #[.val (.ref a), .val (.ref b), .val (.int (Int32.ofNat o)), .val (.int (Int32.ofNat len)), .val .null, .unset] [])) rfl (hb hbytes d27)
  have hh5 := q5.trans hh3
  have c6 : Steps p.tables e below (s₁.setTop (entryFrame m #[.ref a, .ref b, .int (Int32.ofNat o), .int (Int32.ofNat len), .null] 6)) (T5.setTop (mkF m 30 #[.val (.ref a), .val (.ref b), .val (.int (Int32.ofNat o)), .val (.int (Int32.ofNat len)), .val .null, .unset] [.int z])) := c4.trans (st5 _ (Steps.refl _))
  have c7 : Steps p.tables e below (s₁.setTop (entryFrame m #[.ref a, .ref b, .int (Int32.ofNat o), .int (Int32.ofNat len), .null] 6)) (T5.setTop (mkF m 36 #[.val (.ref a), .val (.ref b), .val (.int (Int32.ofNat o)), .val (.int (Int32.ofNat len)), .val .null, .unset] [.int (Int32.ofNat len), .int (Int32.ofNat o), .ref b])) := c6.trans (by
    refine XS.ifNo X5.here hexec rfl (hb hbytes d30) rfl (i0_eq_f hz) ?_
    refine XS.aloadN X5.here hexec rfl (hb hbytes d33) rfl rfl ?_
    refine XS.iloadN X5.here hexec rfl (hb hbytes d34) rfl ?_
    refine XS.iloadN X5.here hexec rfl (hb hbytes d35) rfl ?_
    exact Steps.refl _)
  obtain ⟨v8, T8, X8, E8, g8⟩ := X5.callS hexec (Cmp3.law l b A o len) hown (wks W (staticW "java/lang/String" 177 Cmp3.yN)) (wk W Cmp3.tab) (W := 0) (Nat.le_of_ble_eq_true rfl) (Nat.le_of_ble_eq_true rfl) (Nat.le_refl _) (by show 0 + len ≤ len; omega) (g := (mkF m 36 #[.val (.ref a), .val (.ref b), .val (.int (Int32.ofNat o)), .val (.int (Int32.ofNat len)), .val .null, .unset] [.int (Int32.ofNat len), .int (Int32.ofNat o), .ref b])) rfl (by rw [hml]; rfl) c7 (argsL := [.ref b, .int (Int32.ofNat o), .int (Int32.ofNat len)]) (rest := []) rfl rfl (by show 2 * 0 + 0 ≤ _; decide) (hb hbytes d36) (⟨rfl, hA.mv X5.warmed.alike hh5, l1, l2, hp⟩)
  obtain ⟨e8, z8⟩ := E8
  obtain ⟨rfl, N, n1, n2, n3, n4, n5, n6⟩ := NewArr.mv _ T5 s _ _ hh5.symm (Vm.Alike.refl _) rfl e8
  rw [hh5] at z8
  have hB1 := hB.keep X8.warmed.alike (n6 _ _ hB.1)
  have hne : s.heap.size ≠ a := (Nat.ne_of_lt (Array.getElem?_eq_some_iff.mp hB.1).1).symm
  have c9 : Steps p.tables e below (s₁.setTop (entryFrame m #[.ref a, .ref b, .int (Int32.ofNat o), .int (Int32.ofNat len), .null] 6)) (T8.setTop (mkF m 39 #[.val (.ref a), .val (.ref b), .val (.int (Int32.ofNat o)), .val (.int (Int32.ofNat len)), .val .null, .unset] [.ref s.heap.size])) := g8
  have c10 : Steps p.tables e below (s₁.setTop (entryFrame m #[.ref a, .ref b, .int (Int32.ofNat o), .int (Int32.ofNat len), .null] 6)) (T8.setTop (mkF m 45 #[.val (.ref a), .val (.ref b), .val (.int (Int32.ofNat o)), .val (.int (Int32.ofNat len)), .val .null, .val (.ref s.heap.size)] [.int (Int32.ofNat N.slots.size), .ref s.heap.size, .ref a])) := by
    have hc : Steps p.tables e below (s₁.setTop (entryFrame m #[.ref a, .ref b, .int (Int32.ofNat o), .int (Int32.ofNat len), .null] 6)) (T8.setTop (mkF m 45 #[.val (.ref a), .val (.ref b), .val (.int (Int32.ofNat o)), .val (.int (Int32.ofNat len)), .val .null, .val (.ref s.heap.size)] [.int (Int32.ofNat len), .ref s.heap.size, .ref a])) := c9.trans (by
      refine XS.astore X8.here hexec rfl (hb hbytes d39) rfl rfl rfl ?_
      refine XS.aloadN X8.here hexec rfl (hb hbytes d41) rfl rfl ?_
      refine XS.aload X8.here hexec rfl (hb hbytes d42) rfl rfl ?_
      refine XS.iloadN X8.here hexec rfl (hb hbytes d44) rfl ?_
      exact Steps.refl _)
    rw [n4]; exact hc
  obtain ⟨v11, T11, X11, E11, g11⟩ := X8.callS hexec (CodL.law l s.heap.size N) hown (wks W (staticW "java/lang/String" 47 CodL.yN)) (wk W CodL.tab) (W := 1) (Nat.le_of_ble_eq_true rfl) (Nat.le_of_ble_eq_true rfl) (Nat.le_refl _) (by show 0 + len + 0 ≤ len; omega) (g := (mkF m 45 #[.val (.ref a), .val (.ref b), .val (.int (Int32.ofNat o)), .val (.int (Int32.ofNat len)), .val .null, .val (.ref s.heap.size)] [.int (Int32.ofNat N.slots.size), .ref s.heap.size, .ref a])) rfl (by rw [hml]; rfl) c10 (argsL := [.ref s.heap.size, .int (Int32.ofNat N.slots.size)]) (rest := [.ref a]) rfl rfl (by show 2 * 0 + (1 + 0) ≤ _; decide) (hb hbytes d45) (⟨rfl, n1⟩)
  obtain ⟨rfl, q11⟩ := E11
  have hB11 := hB1.mv (X8.warmed.alike.symm.trans X11.warmed.alike) q11
  have c12 : Steps p.tables e below (s₁.setTop (entryFrame m #[.ref a, .ref b, .int (Int32.ofNat o), .int (Int32.ofNat len), .null] 6)) (T11.setTop (mkF m 48 #[.val (.ref a), .val (.ref b), .val (.int (Int32.ofNat o)), .val (.int (Int32.ofNat len)), .val .null, .val (.ref s.heap.size)] [.int 0, .ref a])) := g11
  obtain ⟨T13, X13, p13, bl13, sl13, st13⟩ := X11.finit hexec hown (wk W (.fieldLink "java/lang/String" 15 "java/lang/String" "coder" "B")) (Or.inr ⟨_, (wk W (.laysFinal "java/lang/String" "java/lang/String" "coder" "B"))⟩) (Or.inl ⟨rfl, hnm⟩) f2 (Or.inl rfl) hB11 (t := .byte) (by decide +kernel) rfl (g := (mkF m 48 #[.val (.ref a), .val (.ref b), .val (.int (Int32.ofNat o)), .val (.int (Int32.ofNat len)), .val .null, .val (.ref s.heap.size)] [.int 0, .ref a])) rfl (rest := []) rfl (hb hbytes d48)
  have c14 : Steps p.tables e below (s₁.setTop (entryFrame m #[.ref a, .ref b, .int (Int32.ofNat o), .int (Int32.ofNat len), .null] 6)) (T13.setTop (mkF m 54 #[.val (.ref a), .val (.ref b), .val (.int (Int32.ofNat o)), .val (.int (Int32.ofNat len)), .val .null, .val (.ref s.heap.size)] [.ref s.heap.size, .ref a])) := (c12.trans (st13 _ (Steps.refl _))).trans (by
    refine XS.aloadN X13.here hexec rfl (hb hbytes d51) rfl rfl ?_
    refine XS.aload X13.here hexec rfl (hb hbytes d52) rfl rfl ?_
    exact Steps.refl _)
  obtain ⟨T15, X15, p15, bl15, sl15, st15⟩ := X13.finit hexec hown (wk W (.fieldLink "java/lang/String" 9 "java/lang/String" "value" "[B")) (Or.inr ⟨_, (wk W (.laysFinal "java/lang/String" "java/lang/String" "value" "[B"))⟩) (Or.inl ⟨rfl, hnm⟩) f1 (Or.inl rfl) bl13 (t := (.array .byte)) (by decide +kernel) rfl (g := (mkF m 54 #[.val (.ref a), .val (.ref b), .val (.int (Int32.ofNat o)), .val (.int (Int32.ofNat len)), .val .null, .val (.ref s.heap.size)] [.ref s.heap.size, .ref a])) rfl (rest := []) rfl (hb hbytes d54)
  have c16 : Steps p.tables e below (s₁.setTop (entryFrame m #[.ref a, .ref b, .int (Int32.ofNat o), .int (Int32.ofNat len), .null] 6)) (T15.setTop (mkF m 57 #[.val (.ref a), .val (.ref b), .val (.int (Int32.ofNat o)), .val (.int (Int32.ofNat len)), .val .null, .val (.ref s.heap.size)] [])) := c14.trans (st15 _ (Steps.refl _))
  have ap := apart (Or.inr ⟨_, (wk W (.laysFinal "java/lang/String" "java/lang/String" "value" "[B"))⟩) (Or.inr ⟨_, (wk W (.laysFinal "java/lang/String" "java/lang/String" "coder" "B"))⟩) f1 f2 (t₁ := .array .byte) (t₂ := .byte) (by decide +kernel) (by decide +kernel) (by decide)
  have al := X8.warmed.alike.symm.trans X15.warmed.alike
  have n7 : T11.heap[s.heap.size]? = some N := by rw [q11]; exact n1.1
  exact ⟨T15, none, _, _, _, X15, by simp, rfl, by omega, (fun _ => rfl), ⟨rfl, _, N, bl15, ((Same.refl D _).set _ (by simp)).set _ (by simp), sl15, (Cell.slots_setSlot_ne _ ap).trans sl13, n1.keep al (p15.other hne (p13.other hne n7)), n2, by rw [al.findClass]; exact n3, n4, n5, fun y c h1 h2 => p15.other h1 (p13.other h1 (by rw [q11]; exact n6 y c h2)), by rw [p15.2.2, p13.2.2, q11]; exact z8⟩, fun fs hl => c16.trans (X15.returnOut hexec hret (hb hbytes d57) hl)⟩
end New4
namespace New1
def yN : MethodName := ⟨"java/lang/String", "<init>", "([C)V"⟩
abbrev yB : ByteArray := jdk_42_method_3_code
theorem d0 : decode yB 0 = .ok (.aload_n 0, 1) := by decide +kernel
theorem d1 : decode yB 1 = .ok (.aload_n 1, 1) := by decide +kernel
theorem d2 : decode yB 2 = .ok (.iconst 0, 1) := by decide +kernel
theorem d3 : decode yB 3 = .ok (.aload_n 1, 1) := by decide +kernel
theorem d4 : decode yB 4 = .ok (.arraylength, 1) := by decide +kernel
theorem d5 : decode yB 5 = .ok (.aconst_null, 1) := by decide +kernel
theorem d6 : decode yB 6 = .ok (.invokespecial 27, 3) := by decide +kernel
theorem d9 : decode yB 9 = .ok (.return_, 1) := by decide +kernel
def site : List Cond := [New4.tab] ++ initW "java/lang/String" 27 New4.yN
def tab : Cond := tabOf yN yB 2 none site
def P (a : Addr) (D : Cell) (fV fC : Field) (b : Addr) (A : Cell) (z : Int32) (args : Array Value) (s : State) : Prop := args = #[.ref a, .ref b] ∧ Blank "java/lang/String" a D s ∧ Found "java/lang/String" "value" "[B" fV s ∧ Found "java/lang/String" "coder" "B" fC s ∧ Ch b A s ∧ StaticIs s "java/lang/String" "COMPACT_STRINGS" "Z" (.int z) ∧ ¬ z = 0 ∧ 0 < A.slots.size ∧ A.slots.size ≤ 536870912 ∧ ∀ i, i < A.slots.size → ¬ 255 < cv A i
def E (a : Addr) (D : Cell) (fV fC : Field) (A : Cell) (r : Option Value) (s u : State) : Prop := Got a D fV fC A 0 A.slots.size r s u
/-- new String(chars), not empty, no char above 255: a Latin-1 String of their low bytes -/
theorem law (l : Launch) (a : Addr) (D : Cell) (fV fC : Field) (b : Addr) (A : Cell) (z : Int32) : Law l yN 2 1 3 52 yB 2 none site (P a D fV fC b A z) (E a D fV fC A) [⟨a, fC.slot⟩, ⟨a, fV.slot⟩] 1 A.slots.size := by
  refine Law.of_walk (plainFor_of_name (by decide +kernel)) (by decide +kernel) (by decide +kernel) (by decide) (fun _ _ h => by rw [h.1]; rfl) (fun _ U U' hal hh h => ⟨h.1, h.2.1.mv hal hh, h.2.2.1.al hal, h.2.2.2.1.al hal, h.2.2.2.2.1.mv hal hh, h.2.2.2.2.2.1.there hal hh, h.2.2.2.2.2.2⟩) (fun r U U' V V' h1 hal h2 h => Got.mv r U U' V V' h1 hal h2 h) ?_
  intro p e s m args below meth c s₁ X0 hexec hbytes hml hret hlk hnm hown hh0 W hP
  obtain ⟨rfl, hB, f1, f2, hA, s1, hz, l0, l2, hp⟩ := hP
  have c1 : Steps p.tables e below (s₁.setTop (entryFrame m #[.ref a, .ref b] 2)) (s₁.setTop (mkF m 0 #[.val (.ref a), .val (.ref b)] [])) := entry rfl
  have c2 : Steps p.tables e below (s₁.setTop (entryFrame m #[.ref a, .ref b] 2)) (s₁.setTop (mkF m 6 #[.val (.ref a), .val (.ref b)] [.null, .int (Int32.ofNat A.slots.size), .int 0, .ref b, .ref a])) := c1.trans (by
    refine XS.aloadN X0.here hexec rfl (hb hbytes d0) rfl rfl ?_
    refine XS.aloadN X0.here hexec rfl (hb hbytes d1) rfl rfl ?_
    refine iconstV X0.here hexec rfl 0 (hb hbytes d2) (by decide) ?_
    refine XS.aloadN X0.here hexec rfl (hb hbytes d3) rfl rfl ?_
    refine X0.alen hexec (hA.1.mv X0.warmed.alike hh0) rfl rfl (hb hbytes d4) ?_
    refine XS.aconstNull X0.here hexec rfl (hb hbytes d5) ?_
    exact Steps.refl _)
  obtain ⟨v3, T3, X3, E3, g3⟩ := X0.callN hexec (New4.law l a D fV fC b A z 0 A.slots.size) rfl hown (wks W (initW "java/lang/String" 27 New4.yN)) (W New4.tab (by simp only [site, List.mem_cons, List.mem_append, true_or, or_true])) (W := 0) (Nat.le_of_ble_eq_true rfl) (Nat.le_of_ble_eq_true rfl) (Nat.le_refl _) (by show 0 + A.slots.size ≤ A.slots.size; omega) (g := (mkF m 6 #[.val (.ref a), .val (.ref b)] [.null, .int (Int32.ofNat A.slots.size), .int (Int32.ofNat 0), .ref b, .ref a])) rfl (by rw [hml]; rfl) c2 (argsL := [.ref b, .int (Int32.ofNat 0), .int (Int32.ofNat A.slots.size), .null]) (rest := []) rfl rfl (by show 2 * 0 + 0 ≤ _; decide) (hb hbytes d6) (⟨rfl, hB.mv X0.warmed.alike hh0, f1.al X0.warmed.alike, f2.al X0.warmed.alike, hA.mv X0.warmed.alike hh0, s1.there X0.warmed.alike hh0, hz, l0, by omega, l2, fun i hi => by rw [Nat.zero_add]; exact hp i hi⟩)
  have e0 := Got.mv _ s₁ s _ _ hh0.symm (Vm.Alike.refl _) rfl E3
  obtain rfl := e0.1
  have c4 : Steps p.tables e below (s₁.setTop (entryFrame m #[.ref a, .ref b] 2)) (T3.setTop (mkF m 9 #[.val (.ref a), .val (.ref b)] [])) := g3
  exact ⟨T3, none, _, _, _, X3, by simp, rfl, by omega, (fun _ => rfl), e0, fun fs hl => c4.trans (X3.returnOut hexec hret (hb hbytes d9) hl)⟩
theorem pays {l : Launch} {R : Room} {p : Program} {e : Env} {below : List Frame} {s : State} {sargs : Array Value} {len W : Nat} (a : Addr) (D : Cell) (fV fC : Field) (b : Addr) (A : Cell) (z : Int32) (htab : tab.before sargs s = true) (hfr : 4 ≤ R.frames) (hlo : W + 65 ≤ R.locals) :
    Back l R p e below s sargs yN len W (fun A₁ a₁ => A₁.cells + 1 ≤ R.cells ∧ A₁.slots + A.slots.size ≤ R.slots ∧ P a D fV fC b A z a₁ A₁.U) (fun A₁ _ v₁ B₁ => E a D fV fC A v₁ A₁.U B₁.U ∧ B₁.locs = A₁.locs ++ [⟨a, fC.slot⟩, ⟨a, fV.slot⟩] ∧ B₁.cells = A₁.cells + 1 ∧ B₁.slots = A₁.slots + A.slots.size) :=
  (law l a D fV fC b A z).pays htab hfr (by omega)
end New1
end StrChars
namespace StrChars.Road
open Jvm Sem ClassFile Op Lib Jvm.Stand Jvm.Free Jvm.Free.XT
open Jvm.Lib.Cold (StaticIs)
abbrev ST : String := "java/lang/String"
/-- every table word that New1's law asks, flat -/
abbrev words : List Jvm.Cond := [.code New1.yN New1.yB 2 none, .initialized ST, .methodLink ST 27 New4.yN, .instanceMethod New4.yN,
  .code New4.yN New4.yB 6 none, .fieldLink ST 38 ST "COMPACT_STRINGS" "Z", .laysFinal ST ST "value" "[B", .fieldLink ST 9 ST "value" "[B", .laysFinal ST ST "coder" "B", .fieldLink ST 15 ST "coder" "B",
  .methodLink ST 1 Lib.objectInit, .instanceMethod Lib.objectInit, .code Lib.objectInit ⟨#[0xb1]⟩ 1 none, .methodLink ST 177 Cmp3.yN, .static Cmp3.yN, .methodLink ST 47 CodL.yN, .static CodL.yN,
  .code Cmp3.yN Cmp3.yB 6 (some (.array .byte)), .initialized U16, .arrayClass .byte, .methodLink U16 115 Cmp5.yN, .static Cmp5.yN, .code Cmp5.yN Cmp5.yB 7 (some .int), .code CodL.yN CodL.yB 2 (some .byte)]
theorem tab_of {a : Array Value} {s : State} (h : ∀ w ∈ words, w.before a s = true) : New1.tab.before a s = true := by
  have h5 : Cmp5.tab.before a s = true := unparts (wk h (.code Cmp5.yN Cmp5.yB 7 (some .int))) (wks h (.initialized Cmp5.yN.cls :: Cmp5.site))
  have hc : CodL.tab.before a s = true := unparts (wk h (.code CodL.yN CodL.yB 2 (some .byte))) (wks h (.initialized CodL.yN.cls :: CodL.site))
  have q5 : ∀ w ∈ Cmp5.tab :: words, w.before a s = true := fun w hw => (List.mem_cons.mp hw).elim (fun e => e ▸ h5) (h w)
  have h3 : Cmp3.tab.before a s = true := unparts (wk q5 (.code Cmp3.yN Cmp3.yB 6 (some (.array .byte)))) (wks q5 (.initialized Cmp3.yN.cls :: Cmp3.site))
  have q3 : ∀ w ∈ Cmp3.tab :: CodL.tab :: words, w.before a s = true := fun w hw => (List.mem_cons.mp hw).elim (fun e => e ▸ h3) fun hw => (List.mem_cons.mp hw).elim (fun e => e ▸ hc) (h w)
  have h4 : New4.tab.before a s = true := unparts (wk q3 (.code New4.yN New4.yB 6 none)) (wks q3 (.initialized New4.yN.cls :: New4.site))
  have q4 : ∀ w ∈ New4.tab :: words, w.before a s = true := fun w hw => (List.mem_cons.mp hw).elim (fun e => e ▸ h4) (h w)
  exact unparts (wk q4 (.code New1.yN New1.yB 2 none)) (wks q4 (.initialized New1.yN.cls :: New1.site))
/-- the words ride from the start Z to the walk's own state -/
theorem moved {Z s : State} {a0 args : Array Value} (hZ : Z.Warmed39 s.vm) (hw : ∀ d ∈ words, d.before a0 Z = true) : ∀ d ∈ words, d.before args s = true := fun d hd => by
  have q := hw d hd
  have t : ∀ d ∈ words, d = .arrayClass .byte ∨ (d.onTables && d.keepsFace) = true := by decide +kernel
  rcases t d hd with rfl | t
  · exact RoadKit.mvA hZ q
  · exact RoadKit.mv hZ q t
/-- WHAT COMES BACK, over the tables of the start Z: h the heap at the call, h' behind it -/
def Q (Z : State) (x : Addr) (A : Cell) (h : Heap) (v : Option Value) (h' : Heap) (L : List Loc) : Prop := v = none ∧ (∀ y ∈ L, y.base = x) ∧ RoadKit.Keep h h' [x] ∧ h'.size = h.size + 1 ∧ RoadKit.Exa Z h' x ST ∧ RoadKit.Fld Z h' x ST "value" "[B" (.ref h.size) ∧ RoadKit.Fld Z h' x ST "coder" "B" (.int 0) ∧
  (∃ V : Cell, RoadKit.Arr Z h' h.size V .byte ∧ V.vm = .none ∧ Z.vm.findClass "[B" = some V.cls ∧ V.slots.size = A.slots.size ∧ ∀ j, j < A.slots.size → V.slots[j]? = some (.int (lo8 (cv A j)))) ∧
  ∀ (O n d : String) (w : Value), RoadKit.Fld Z h x O n d w → RoadKit.slotOf Z O n d ≠ RoadKit.slotOf Z ST "value" "[B" → RoadKit.slotOf Z O n d ≠ RoadKit.slotOf Z ST "coder" "B" → RoadKit.Fld Z h' x O n d w
/-- **new String(chars) AT A CALL, IN THE ROAD'S FORM**: for specialBack behind newO: x the fresh String, b the char[] with the cell A -/
theorem back {p : Program} {l : Launch} {e : Env} {R : Room} {s : State} {args : Array Value} {below : List Frame} {len W : Nat} {Z : State} {a0 : Array Value} {h : Heap} (hZ : Z.Warmed39 s.vm) (hw : ∀ d ∈ words, d.before a0 Z = true) {kI : Nat} (wi : (Jvm.Cond.instantiable ST kI).before a0 Z = true)
    {x b : Addr} {A : Cell} {z : Int32} {v0 c0 : Value} (E : RoadKit.Exa Z h x ST) (V : RoadKit.Fld Z h x ST "value" "[B" v0) (C : RoadKit.Fld Z h x ST "coder" "B" c0) (K : RoadKit.Arr Z h b A .char) (hty : Typed .char A) (S : RoadKit.Sta Z h ST "COMPACT_STRINGS" "Z" (.int z)) (hz : ¬ z = 0)
    (l0 : 0 < A.slots.size) (l2 : A.slots.size ≤ 536870912) (hp : ∀ i, i < A.slots.size → ¬ 255 < cv A i) (hfr : 4 ≤ R.frames) (hlo : W + 65 ≤ R.locals) :
    Back l R p e below s args New1.yN len W (fun P a => a = #[.ref x, .ref b] ∧ P.U.heap = h ∧ P.cells + 1 ≤ R.cells ∧ P.slots + A.slots.size ≤ R.slots)
      (fun P _ v B => ∃ L, Q Z x A h v B.U.heap L ∧ B.locs = P.locs ++ L ∧ B.cells = P.cells + 1 ∧ B.slots = P.slots + A.slots.size) := by
  intro m meth c P g ig mk a X hg hsize hdg hW hn hp'
  obtain ⟨rfl, rfl, r1, r2⟩ := hp'
  have al : Z.vm.Alike P.U.vm := hZ.alike.trans X.warmed.alike
  obtain ⟨D, cfV, kV, iV, fV, hD, gV, stV, knV, obV, asV, slV⟩ := id V
  obtain ⟨D', cfC, kC, iC, fC, hD', gC, stC, -, -, asC, slC⟩ := id C
  cases hD.symm.trans hD'
  obtain ⟨D2, kD, e1, e2, e3, e4, e5⟩ := id E
  cases hD.symm.trans e1
  obtain ⟨c2, k2, i1, i2, i3, -⟩ := Cond.instantiable_spec wi
  cases e2.symm.trans i1
  cases e3.symm.trans i2
  obtain ⟨kU, u1, u2⟩ := al.2.2 _ _ e3
  have hB : Blank ST x D P.U := ⟨hD, ⟨knV, fun q hq => by rw [hq] at obV; cases obV⟩, by rw [al.findClass]; exact e2, kU, u1, by rw [u2]; exact i3, by rw [u2]; exact e5 i3⟩
  have F1 : Found ST "value" "[B" fV P.U := ⟨SBG.found_only al ⟨cfV, kV, iV, gV⟩, stV⟩
  have F2 : Found ST "coder" "B" fC P.U := ⟨SBG.found_only al ⟨cfC, kC, iC, gC⟩, stC⟩
  have hA : Ch b A P.U := ⟨⟨K.1, State.isArrayOf_alike al K.2.1, K.2.2, by omega⟩, hty⟩
  have hS : StaticIs P.U ST "COMPACT_STRINGS" "Z" (.int z) := by
    obtain ⟨cfS, iS, kS, fS, st, cS, t1, t2, t3, t4, t5, t6, t7⟩ := S
    exact StaticIs.there (s := { Z with heap := P.U.heap }) ⟨cfS, iS, kS, fS, st, cS, t1, t2, t3, t4, t5, (fun q => by rw [q] at t6; cases t6), t7⟩ al rfl
  obtain ⟨v, B, X', ⟨⟨hv, E', V', q1, q2, q3, q4, q5, q6, q7, q8, q9, q10, q11⟩, hl, hc, hs⟩, st⟩ := New1.pays x D fV fC b A z (tab_of (moved hZ hw)) hfr hlo m meth c P g ig mk _ X hg hsize hdg hW hn ⟨r1, r2, rfl, hB, F1, F2, hA, hS, hz, l0, l2, hp⟩
  have al' : Z.vm.Alike B.U.vm := hZ.alike.trans X'.warmed.alike
  have hsz : E'.slots.size = D.slots.size := by
    obtain ⟨-, -, -, kB, w1, w2, w3⟩ := q1
    obtain ⟨kB', y1, y2⟩ := al'.2.2 _ _ e3
    rw [q2.2.1] at w1
    cases w1.symm.trans y1
    rw [w3, e5 i3, y2]
  refine ⟨v, B, X', ⟨_, ⟨hv, ?_, ⟨by omega, fun y cy hy hn' => q10 y cy (by simpa using hn') hy, fun y cy hy => ?_⟩, q11, ⟨E', _, q1.1, by rw [q2.2.1]; exact e2, by rw [q2.2.1]; exact e3, by rw [q2.1]; exact obV, fun _ => by rw [hsz]; exact e5 i3⟩,
    ⟨E', cfV, kV, iV, fV, q1.1, gV, stV, by rw [q2.1]; exact knV, by rw [q2.1]; exact obV, by rw [q2.2.1]; exact asV, q3⟩, ⟨E', cfC, kC, iC, fC, q1.1, gC, stC, by rw [q2.1]; exact knV, by rw [q2.1]; exact obV, by rw [q2.2.1]; exact asC, q4⟩,
    ⟨V', ⟨q5.1, State.isArrayOf_alike al'.symm q5.2.1, q5.2.2.1⟩, q6, by rw [← al'.findClass]; exact q7, q8, fun j hj => by have := q9 j hj; rwa [Nat.zero_add] at this⟩, fun O n d w F n1 n2 => ?_⟩, hl, hc, hs⟩, st⟩
  · intro y hy
    simp only [List.mem_cons, List.not_mem_nil, or_false] at hy
    rcases hy with rfl | rfl <;> rfl
  · by_cases q : y = x
    · subst q
      cases hD.symm.trans hy
      exact ⟨E', q1.1, q2.2.1, q2.1, hsz⟩
    · exact ⟨cy, q10 y cy q hy, rfl, rfl, rfl⟩
  · obtain ⟨D3, cf, k, i, f, g1, g2, g3, g4, g5, g6, g7⟩ := F
    cases hD.symm.trans g1
    simp only [RoadKit.slotOf, g2, gV, gC, Option.map_some, Option.getD_some] at n1 n2
    exact ⟨E', cf, k, i, f, q1.1, g2, g3, by rw [q2.1]; exact g4, by rw [q2.1]; exact g5, by rw [q2.2.1]; exact g6, by rw [q2.2.2 f.slot (by simp [n1, n2])]; exact g7⟩
end StrChars.Road
namespace StrChars.Road
open Jvm Sem ClassFile Op Lib Jvm.Stand Jvm.Free Jvm.Free.XT
/-- WHAT COMES BACK, the byte[] as a list of values -/
def QA (Z : State) (x : Addr) (zn : Int32) (cs : List Int32) (h : Heap) (v : Option Value) (h' : Heap) (L : List Loc) : Prop := v = none ∧ (∀ y ∈ L, y.base = x) ∧ RoadKit.Keep h h' [x] ∧ h'.size = h.size + 1 ∧ RoadKit.Exa Z h' x ST ∧ RoadKit.Fld Z h' x ST "value" "[B" (.ref h.size) ∧ RoadKit.Fld Z h' x ST "coder" "B" (.int 0) ∧
  (∃ kb, Z.vm.findClass "[B" = some kb ∧ RoadKit.Arv Z h' h.size kb .byte zn (cs.map fun c => .int (lo8 c)) (.int 0)) ∧
  ∀ (O n d : String) (w : Value), RoadKit.Fld Z h x O n d w → RoadKit.slotOf Z O n d ≠ RoadKit.slotOf Z ST "value" "[B" → RoadKit.slotOf Z O n d ≠ RoadKit.slotOf Z ST "coder" "B" → RoadKit.Fld Z h' x O n d w
/-- **new String(chars) AT A CALL, THE ARRAYS AS LISTS**: the char[] at b holds cs, not empty, no char above 255 -/
theorem backArv {p : Program} {l : Launch} {e : Env} {R : Room} {s : State} {args : Array Value} {below : List Frame} {len W : Nat} {Z : State} {a0 : Array Value} {h : Heap} (hZ : Z.Warmed39 s.vm) (hw : ∀ d ∈ words, d.before a0 Z = true) {kI : Nat} (wi : (Jvm.Cond.instantiable ST kI).before a0 Z = true)
    {x b : Addr} {k : ClassId} {zn z : Int32} {cs : List Int32} {dv v0 c0 : Value} (E : RoadKit.Exa Z h x ST) (V : RoadKit.Fld Z h x ST "value" "[B" v0) (C : RoadKit.Fld Z h x ST "coder" "B" c0) (K : RoadKit.Arv Z h b k .char zn (cs.map Value.int) dv) (S : RoadKit.Sta Z h ST "COMPACT_STRINGS" "Z" (.int z)) (hz : ¬ z = 0)
    (hlen : zn.toNatClampNeg = cs.length) (h0 : 0 < cs.length) (hbig : cs.length ≤ 536870912) (hall : ∀ c ∈ cs, ¬ 255 < c) (hfr : 4 ≤ R.frames) (hlo : W + 65 ≤ R.locals) :
    Back l R p e below s args New1.yN len W (fun P a => a = #[.ref x, .ref b] ∧ P.U.heap = h ∧ P.cells + 1 ≤ R.cells ∧ P.slots + cs.length ≤ R.slots)
      (fun P _ v B => ∃ L, QA Z x zn cs h v B.U.heap L ∧ B.locs = P.locs ++ L ∧ B.cells = P.cells + 1 ∧ B.slots = P.slots + cs.length) := by
  obtain ⟨A, K1, K2, K3, K4, K5, K6⟩ := K
  have e : A.slots.size = cs.length := K3.trans hlen
  have hat : ∀ (i : Nat) (hi : i < cs.length), A.slots[i]? = some (.int cs[i]) := fun i hi => by rw [K5 i (by omega)]; simp [List.getD_eq_getElem?_getD, hi]
  have hcv : ∀ (i : Nat) (hi : i < cs.length), cv A i = cs[i] := fun i hi => by unfold cv; rw [hat i hi]
  have hty : Typed .char A := fun i v hv => by
    have hi : i < A.slots.size := (Array.getElem?_eq_some_iff.mp hv).1
    have q := K5 i hi
    rw [hv] at q
    rw [Option.some.inj q]
    exact K6 i hi
  refine Back.mono (back hZ hw wi E V C K1 hty S hz (by omega) (by omega) (fun i hi => by rw [hcv i (by omega)]; exact hall _ (List.getElem_mem _)) hfr hlo) (fun P a hp => ⟨hp.1, hp.2.1, hp.2.2.1, by rw [e]; exact hp.2.2.2⟩) (fun P a v B hp hq => ?_)
  obtain ⟨L, ⟨q1, q2, q3, q4, q5, q6, q7, ⟨V', v1, v2, v3, v4, v5⟩, q9⟩, hl, hc, hs⟩ := hq
  refine ⟨L, ⟨q1, q2, q3, q4, q5, q6, q7, ⟨V'.cls, v3, V', v1, rfl, by rw [v4, e, hlen], K4, fun i hi => ?_, fun i hi => ?_⟩, q9⟩, hl, hc, by rw [hs, e]⟩
  · have hi' : i < cs.length := by omega
    rw [v5 i (by omega), hcv i hi']; simp [List.getD_eq_getElem?_getD, hi']
  · have hi' : i < cs.length := by omega
    simp only [List.getD_eq_getElem?_getD, List.getElem?_map, List.getElem?_eq_getElem hi', Option.map_some, Option.getD_some]
    exact fits_lo8 _
end StrChars.Road
namespace StrChars.Road
open Jvm Sem ClassFile Op Lib Jvm.Stand Jvm.Free Jvm.Free.XT
/-- WHAT COMES BACK, in the writer's own shape -/
def QV (Z : State) (x : Addr) (N : Int32) (bs : List Int32) (h : Heap) (n0 : Nat) (v : Option Value) (h' : Heap) (L : List Loc) : Prop := v = none ∧ RoadKit.Fr n0 L ∧ RoadKit.Keep h h' [x] ∧ RoadKit.Exa Z h' x ST ∧ RoadKit.Fld Z h' x ST "coder" "B" (.int 0) ∧
  ∃ (t : Addr) (kb : ClassId), n0 ≤ t ∧ h.size ≤ t ∧ ¬ t = x ∧ RoadKit.Fld Z h' x ST "value" "[B" (.ref t) ∧ RoadKit.Arv Z h' t kb .byte N (bs.map Value.int) (.int 0)
/-- **new String(chars) AT A CALL, FOR THE WRITER**: a char[] of n known ints, each 0 to 255 -/
theorem backV {p : Program} {l : Launch} {e : Env} {R : Room} {s : State} {args : Array Value} {below : List Frame} {len W : Nat} {Z : State} {a0 : Array Value} {h : Heap} (hZ : Z.Warmed39 s.vm) (hw : ∀ d ∈ words, d.before a0 Z = true) {kI : Nat} (wi : (Jvm.Cond.instantiable ST kI).before a0 Z = true)
    {x b : Addr} {kC : ClassId} {cs bs : List Int32} {d v0 c0 : Value} {z N : Int32} {n n0 : Nat} (hx0 : n0 ≤ x) (hh0 : n0 ≤ h.size) (E : RoadKit.Exa Z h x ST) (V : RoadKit.Fld Z h x ST "value" "[B" v0) (C : RoadKit.Fld Z h x ST "coder" "B" c0) (K : RoadKit.Arv Z h b kC .char N (cs.map Value.int) d) (S : RoadKit.Sta Z h ST "COMPACT_STRINGS" "Z" (.int z)) (hz : ¬ z = 0)
    (hn : cs.length = n) (hN : N = Int32.ofNat n) (l0 : 0 < n) (l2 : n ≤ 4000) (hp : ∀ c ∈ cs, ¬ c < 0 ∧ ¬ (255 : Int32) < c) (hb : bs = cs.map (fun c => c.toInt8.toInt32)) (hfr : 4 ≤ R.frames) (hlo : W + 65 ≤ R.locals) :
    Back l R p e below s args (⟨"java/lang/String", "<init>", "([C)V"⟩ : MethodName) len W (fun P a => a = #[.ref x, .ref b] ∧ P.U.heap = h ∧ P.cells + 1 ≤ R.cells ∧ P.slots + n ≤ R.slots)
      (fun P _ v B => ∃ L, QV Z x N bs h n0 v B.U.heap L ∧ B.locs = P.locs ++ L ∧ B.cells = P.cells + 1 ∧ B.slots = P.slots + n) := by
  subst hn hN hb
  refine Back.mono (backArv hZ hw wi E V C K S hz (n32 (by omega)) l0 (by omega) (fun c hc => (hp c hc).2) hfr hlo) (fun P a hp => hp) (fun P a v B hp hq => ?_)
  obtain ⟨L, ⟨q1, q2, q3, q4, q5, q6, q7, ⟨kb, v1, v2⟩, q9⟩, hl, hc, hs⟩ := hq
  exact ⟨L, ⟨q1, fun y hy => by rw [q2 y hy]; exact hx0, q3, q5, q7, h.size, kb, hh0, Nat.le_refl _, Nat.ne_of_gt E.lt, q6, by rw [List.map_map]; exact v2⟩, hl, hc, hs⟩
end StrChars.Road
end Jvm.Pilot.@@N@@

namespace Jvm.Pilot.@@N@@
open Jvm Jvm.ClassFile Sem Op Lib Jvm.Free Jvm.Stand Jvm.LawKit Jvm.RoadKit Bundle Jvm.Pilot.@@N@@.Jvm.D
section OwnKit
variable {p : Program} {l : Launch} {e : Env} {R : Room} {s : State} {m : MethodId} {args : Array Value} {below : List Frame} {meth : Method} {c : Code} {T : State} {locs : List Loc} {cells slots : Nat} {Z : State} {a0 : Array Value} {h : Heap}
/-- the run from t ends, and Q holds of its end -/
def own_Fin (tb : Tables) (e : Env) (below : List Frame) (Q : Outcome → State → Prop) (t : State) : Prop := ∃ s₂ o, Steps tb e below t s₂ ∧ s₂.status = .running ∧ Ended s₂ below o ∧ Q o s₂
theorem own_go {tb : Tables} {Q : Outcome → State → Prop} {t t' : State} (k : ∀ z, Steps tb e below t' z → Steps tb e below t z) (f : own_Fin tb e below Q t') : own_Fin tb e below Q t := by
  obtain ⟨s₂, o, h1, h2⟩ := f
  exact ⟨s₂, o, k _ h1, h2⟩
/-- the run from t comes to a state of which G holds -/
def own_Go (tb : Tables) (e : Env) (below : List Frame) (G : State → Prop) (t : State) : Prop := ∃ t', G t' ∧ ∀ z, Steps tb e below t' z → Steps tb e below t z
theorem own_on {tb : Tables} {G : State → Prop} {t t' : State} (k : ∀ z, Steps tb e below t' z → Steps tb e below t z) (f : own_Go tb e below G t') : own_Go tb e below G t := by
  obtain ⟨t₂, h1, h2⟩ := f
  exact ⟨t₂, h1, fun z q => k z (h2 z q)⟩
theorem own_here {tb : Tables} {G : State → Prop} {t : State} (k : G t) : own_Go tb e below G t := ⟨t, k, fun _ q => q⟩
def own_End (s : State) (Q : Option Value → Heap → List Loc → Prop) (C S : Nat) (o : Outcome) (U : State) : Prop := ∃ v L, o = .returned v ∧ Q v U.heap L ∧ FrameEnd s o U L C S
variable {Q : Option Value → Heap → List Loc → Prop} {C S : Nat}
theorem own_retI (X : Stand p l e R s m args below meth c T locs cells slots) (hx : p.tables.exec = Jvm.exec) (hlk : meth.locks = false) {pc : Nat} {Ls : Array Slot} {z : Int32} {rest : List Value} (hret : meth.sig.returnType = some .int) (hd : decode c.code pc = .ok (.ireturn, 1)) (hq : Q (some (.int z)) T.heap locs) (hC : cells ≤ C) (hS : slots ≤ S) :
    own_Fin p.tables e below (own_End s Q C S) (T.setTop (mkF m pc Ls (.int z :: rest))) := by
  obtain ⟨fs, hr, hrun, hended, hW, hsame⟩ := X.leave (v := some (.int z)) (fun h => by rw [hret] at h; cases h) hlk
  exact ⟨_, _, retOut X hx hret rfl (Or.inl ⟨rfl, Or.inl rfl, _, rfl⟩) hd hr, hrun, hended, _, _, rfl, hq, ⟨_, rfl⟩, hW, hsame.mono hC hS⟩
theorem own_retN (X : Stand p l e R s m args below meth c T locs cells slots) (hx : p.tables.exec = Jvm.exec) (hlk : meth.locks = false) {pc : Nat} {Ls : Array Slot} {z : Int32} {rest : List Value} {t : FieldType} (hret : meth.sig.returnType = some t) (ht : t = .boolean ∨ t = .byte ∨ t = .char ∨ t = .short) (hd : decode c.code pc = .ok (.ireturn, 1)) (hq : Q (some (.int (nar t z))) T.heap locs) (hC : cells ≤ C) (hS : slots ≤ S) :
    own_Fin p.tables e below (own_End s Q C S) (T.setTop (mkF m pc Ls (.int z :: rest))) := by
  obtain ⟨fs, hr, hrun, hended, hW, hsame⟩ := X.leave (v := some (.int (nar t z))) (fun h => by rw [hret] at h; cases h) hlk
  exact ⟨_, _, retN X hx hret ht hd hr, hrun, hended, _, _, rfl, hq, ⟨_, rfl⟩, hW, hsame.mono hC hS⟩
theorem own_retJ (X : Stand p l e R s m args below meth c T locs cells slots) (hx : p.tables.exec = Jvm.exec) (hlk : meth.locks = false) {pc : Nat} {Ls : Array Slot} {z : Int64} {rest : List Value} (hret : meth.sig.returnType = some .long) (hd : decode c.code pc = .ok (.lreturn, 1)) (hq : Q (some (.long z)) T.heap locs) (hC : cells ≤ C) (hS : slots ≤ S) :
    own_Fin p.tables e below (own_End s Q C S) (T.setTop (mkF m pc Ls (.long z :: rest))) := by
  obtain ⟨fs, hr, hrun, hended, hW, hsame⟩ := X.leave (v := some (.long z)) (fun h => by rw [hret] at h; cases h) hlk
  exact ⟨_, _, retOut X hx hret rfl (Or.inr (Or.inl ⟨rfl, rfl, _, rfl⟩)) hd hr, hrun, hended, _, _, rfl, hq, ⟨_, rfl⟩, hW, hsame.mono hC hS⟩
theorem own_retA (X : Stand p l e R s m args below meth c T locs cells slots) (hx : p.tables.exec = Jvm.exec) (hlk : meth.locks = false) {pc : Nat} {Ls : Array Slot} {w : Value} {rest : List Value} {t : FieldType} (hret : meth.sig.returnType = some t) (ht : t.isReference = true) (hw : w.isRef = true) (hd : decode c.code pc = .ok (.areturn, 1)) (hq : Q (some w) T.heap locs) (hC : cells ≤ C) (hS : slots ≤ S) :
    own_Fin p.tables e below (own_End s Q C S) (T.setTop (mkF m pc Ls (w :: rest))) := by
  obtain ⟨fs, hr, hrun, hended, hW, hsame⟩ := X.leave (v := some w) (fun h => by rw [hret] at h; cases h) hlk
  have hn : narrow t w = w := by cases t <;> first | (cases ht; done) | (cases w <;> first | (cases hw; done) | rfl)
  exact ⟨_, _, retOut X hx hret hn (Or.inr (Or.inr (Or.inr (Or.inr ⟨rfl, ht, hw⟩)))) hd hr, hrun, hended, _, _, rfl, hq, ⟨_, rfl⟩, hW, hsame.mono hC hS⟩
theorem own_retV (X : Stand p l e R s m args below meth c T locs cells slots) (hx : p.tables.exec = Jvm.exec) (hlk : meth.locks = false) {pc : Nat} {Ls : Array Slot} (hret : meth.sig.returnType = none) (hd : decode c.code pc = .ok (.return_, 1)) (hq : Q none T.heap locs) (hC : cells ≤ C) (hS : slots ≤ S) :
    own_Fin p.tables e below (own_End s Q C S) (T.setTop (mkF m pc Ls [])) := by
  obtain ⟨fs, hr, hrun, hended, hW, hsame⟩ := X.leave (v := none) (fun _ => rfl) hlk
  exact ⟨_, _, X.returnOut hx hret hd hr, hrun, hended, _, _, rfl, hq, ⟨_, rfl⟩, hW, hsame.mono hC hS⟩
/-- what a body's contract says: called with as' at the heap h0 it returns, and Q holds of what it returns, of the heap and of the places written -/
def own_Met (l : Launch) (y : MethodName) (bytes : ByteArray) (maxL : Nat) (ret : Option FieldType) (rm : Room) (ws : List Jvm.Cond) (as' : Array Value) (Z : State) (h0 : Heap) (C S : Nat) (Q : Option Value → Heap → List Loc → Prop) : Prop :=
  MetFree l y (head1 (Jvm.Cond.code y bytes maxL ret :: ws) rm) (fun a U => a = as' ∧ Z.Warmed39 U.vm ∧ U.heap = h0) (fun _ _ _ _ _ => True) (fun _ U o U' => ∃ v L, o = .returned v ∧ Q v U'.heap L ∧ FrameEnd U o U' L C S)
theorem own_met {y : MethodName} {bytes : ByteArray} {maxL : Nat} {ret : Option FieldType} {rm : Room} {ws : List Jvm.Cond} {as' : Array Value} {h0 : Heap} (hy : plainFor y = true)
    (body : ∀ (p : Program) (e : Env) (s : State) (m : MethodId) (below : List Frame) (meth : Method) (c : Code) (s₁ : State), p.tables.exec = Jvm.exec → c.code = bytes → c.maxLocals = maxL → s.vm.findClass y.cls = some m.cls → meth.name = y.name → meth.sig.returnType = ret → meth.locks = false → Z.Warmed39 s.vm → s₁.heap = h0 → Stand p l e rm s m as' below meth c s₁ [] 0 0 → own_Fin p.tables e below (own_End s Q C S) (s₁.setTop (entryFrame m as' maxL))) :
    own_Met l y bytes maxL ret rm ws as' Z h0 C S Q := by
  refine MetFree.of_bodySF hy hisR ?_
  intro p e s m args below meth c s₁ Bd hml0 hP hK
  obtain ⟨rfl, hZ, hh⟩ := hP
  have X0 : Stand p l e rm s m args below meth c s₁ [] 0 0 := Stand.of_body Bd
  exact body p e s m below meth c s₁ Bd.exec Bd.bytes hml0 (findClass_of_methodNamed Bd.named) (name_of_methodNamed Bd.named Bd.method).1 Bd.returns Bd.notSynchronized hZ (by rw [← hh, Bd.state]; rfl) X0
section Calls
variable {own : String} {index : Nat} {y : MethodName} {bytes : ByteArray} {maxL : Nat} {ret : Option FieldType} {rm : Room} {as' : Array Value}
theorem own_callS (X : Stand p l e R s m args below meth c T locs cells slots) (hx : p.tables.exec = Jvm.exec) (hZ : Z.Warmed39 s.vm) (hown : s.vm.findClass own = some m.cls) (w1 : (Jvm.Cond.methodLink own index y).before a0 Z = true) (w2 : (Jvm.Cond.static y).before a0 Z = true) (w3 : (Jvm.Cond.initialized y.cls).before a0 Z = true) (w4 : (Jvm.Cond.code y bytes maxL ret).before a0 Z = true)
    (hy : y.cls ≠ "java/lang/invoke/MethodHandle" ∧ y.cls ≠ "java/lang/invoke/VarHandle") {W : Nat} (hM : own_Met l y bytes maxL ret rm [] as' Z h rm.cells rm.slots Q) (hf : rm.frames + 1 ≤ R.frames) (hl : W + (maxL + 11) + rm.locals ≤ R.locals) (eT : T.heap = h)
    {g : JFrame} (hg : g.method = m) (hsize : g.locals.size = c.maxLocals) {argsL rest : List Value} (has : argsL.toArray = as') (hlen : ∀ sig, parseMethodDescriptor y.desc = some sig → argsL.length = sig.parameters.length)
    (hstack : g.stack = argsL.reverse ++ rest) (hW : 2 * g.monitorRoom + (rest.map fun v => v.category).sum ≤ W) (hdg : decode c.code g.pc = .ok (.invokestatic index, 3)) (hc : cells + rm.cells ≤ R.cells) (hs : slots + rm.slots ≤ R.slots) :
    ∃ (v : Option Value) (T' : State) (L' : List Loc), Stand p l e R s m args below meth c T' (locs ++ L') (cells + rm.cells) (slots + rm.slots) ∧ Q v T'.heap L' ∧
      ∀ t, Steps p.tables e below (T'.setTop { g with pc := g.pc + 3, stack := v.toList ++ rest }) t → Steps p.tables e below (T.setTop g) t := by
  obtain ⟨v, vm1, ⟨T', L, k, n⟩, -, X', ⟨L', hQ, e1, e2, e3⟩, st⟩ := Jvm.LawKit.callS X hx hown (mvT hZ w1) (mvT hZ w2) (mvT hZ w3) (mvT hZ w4) hy (backOf (W := W) hM hZ w4 w3 hf hl) hg hsize hlen hstack hW hdg (fun _ _ => ⟨has, eT, hc, hs⟩)
  dsimp only [Pt.U, Pt.locs, Pt.cells, Pt.slots] at X' e1 e2 e3 st hQ
  subst e1 e2 e3
  exact ⟨v, T', L', X', hQ, st⟩
theorem own_callC (X : Stand p l e R s m args below meth c T locs cells slots) (hx : p.tables.exec = Jvm.exec) (hZ : Z.Warmed39 s.vm) (hown : s.vm.findClass own = some m.cls) (hnm : y.name = "<init>") (w1 : (Jvm.Cond.methodLink own index y).before a0 Z = true) (w2 : (Jvm.Cond.instanceMethod y).before a0 Z = true) (w3 : (Jvm.Cond.initialized y.cls).before a0 Z = true) (w4 : (Jvm.Cond.code y bytes maxL none).before a0 Z = true)
    (hy : y.cls ≠ "java/lang/invoke/MethodHandle" ∧ y.cls ≠ "java/lang/invoke/VarHandle") {W : Nat} (hM : own_Met l y bytes maxL none rm [] as' Z h rm.cells rm.slots Q) (hf : rm.frames + 1 ≤ R.frames) (hl : W + (maxL + 11) + rm.locals ≤ R.locals) (eT : T.heap = h)
    {g : JFrame} (hg : g.method = m) (hsize : g.locals.size = c.maxLocals) {a : Addr} {argsL rest : List Value} (has : (.ref a :: argsL).toArray = as') (hlen : ∀ sig, parseMethodDescriptor y.desc = some sig → argsL.length = sig.parameters.length)
    (hstack : g.stack = argsL.reverse ++ .ref a :: rest) (hW : 2 * g.monitorRoom + (rest.map fun v => v.category).sum ≤ W) (hdg : decode c.code g.pc = .ok (.invokespecial index, 3)) (hc : cells + rm.cells ≤ R.cells) (hs : slots + rm.slots ≤ R.slots) :
    ∃ (v : Option Value) (T' : State) (L' : List Loc), Stand p l e R s m args below meth c T' (locs ++ L') (cells + rm.cells) (slots + rm.slots) ∧ Q v T'.heap L' ∧
      ∀ t, Steps p.tables e below (T'.setTop { g with pc := g.pc + 3, stack := v.toList ++ rest }) t → Steps p.tables e below (T.setTop g) t := by
  obtain ⟨v, vm1, ⟨T', L, k, n⟩, -, X', ⟨L', hQ, e1, e2, e3⟩, st⟩ := X.specialBack hx hnm hown (mvT hZ w1) (mvT hZ w2) (mvT hZ w4) hy (backOf (W := W) hM hZ w4 w3 hf hl) hg hsize (Steps.refl _) hlen hstack hW hdg (fun _ _ => ⟨has, eT, hc, hs⟩)
  dsimp only [Pt.U, Pt.locs, Pt.cells, Pt.slots] at X' e1 e2 e3 st hQ
  subst e1 e2 e3
  exact ⟨v, T', L', X', hQ, fun _ k => st.trans k⟩
theorem own_callV (X : Stand p l e R s m args below meth c T locs cells slots) (hx : p.tables.exec = Jvm.exec) (hZ : Z.Warmed39 s.vm) (hown : s.vm.findClass own = some m.cls) {D : String} (w1 : (Jvm.Cond.methodLink own index y).before a0 Z = true) (w2 : (Jvm.Cond.declares y).before a0 Z = true) (w3 : (Jvm.Cond.selects D y y).before a0 Z = true) (w4 : (Jvm.Cond.instanceMethod y).before a0 Z = true) (w5 : (Jvm.Cond.initialized y.cls).before a0 Z = true) (w6 : (Jvm.Cond.code y bytes maxL ret).before a0 Z = true)
    (hy : y.cls ≠ "java/lang/invoke/MethodHandle" ∧ y.cls ≠ "java/lang/invoke/VarHandle") {W : Nat} (hM : own_Met l y bytes maxL ret rm [] as' Z h rm.cells rm.slots Q) (hf : rm.frames + 1 ≤ R.frames) (hl : W + (maxL + 11) + rm.locals ≤ R.locals) (eT : T.heap = h) {a : Addr} (E : Exa Z h a D)
    {g : JFrame} (hg : g.method = m) (hsize : g.locals.size = c.maxLocals) {argsL rest : List Value} (has : (.ref a :: argsL).toArray = as') (hlen : ∀ sig, parseMethodDescriptor y.desc = some sig → argsL.length = sig.parameters.length)
    (hstack : g.stack = argsL.reverse ++ .ref a :: rest) (hW : 2 * g.monitorRoom + (rest.map fun v => v.category).sum ≤ W) (hdg : decode c.code g.pc = .ok (.invokevirtual index, 3)) (hc : cells + rm.cells ≤ R.cells) (hs : slots + rm.slots ≤ R.slots) :
    ∃ (v : Option Value) (T' : State) (L' : List Loc), Stand p l e R s m args below meth c T' (locs ++ L') (cells + rm.cells) (slots + rm.slots) ∧ Q v T'.heap L' ∧
      ∀ t, Steps p.tables e below (T'.setTop { g with pc := g.pc + 3, stack := v.toList ++ rest }) t → Steps p.tables e below (T.setTop g) t := by
  obtain ⟨cq, kq, qa, qb, qc⟩ := isOf hZ eT E
  obtain ⟨v, vm1, ⟨T', L, k, n⟩, -, X', ⟨L', hQ, e1, e2, e3⟩, st⟩ := X.virtualBack hx hown (mvT hZ w1) (mvT hZ w2) (notFace_of_selects (args := #[]) (mvT hZ w3)) (mvT hZ w3) (mvT hZ w4) hy (backOf (W := W) hM hZ w6 w5 hf hl) qa qc hg hsize (Steps.refl _) hlen hstack hW hdg (fun _ _ => ⟨has, eT, hc, hs⟩)
  dsimp only [Pt.U, Pt.locs, Pt.cells, Pt.slots] at X' e1 e2 e3 st hQ
  subst e1 e2 e3
  exact ⟨v, T', L', X', hQ, fun _ k => st.trans k⟩
/-- as own_callC, own_callV, where who pays is given -/
theorem own_callCB (X : Stand p l e R s m args below meth c T locs cells slots) (hx : p.tables.exec = Jvm.exec) (hZ : Z.Warmed39 s.vm) (hown : s.vm.findClass own = some m.cls) (hnm : y.name = "<init>") (w1 : (Jvm.Cond.methodLink own index y).before a0 Z = true) (w2 : (Jvm.Cond.instanceMethod y).before a0 Z = true) (w4 : (Jvm.Cond.code y bytes maxL none).before a0 Z = true)
    (hy : y.cls ≠ "java/lang/invoke/MethodHandle" ∧ y.cls ≠ "java/lang/invoke/VarHandle") {W kc kn : Nat} (hK : Back l R p e below s args y 3 W (fun P a => a = as' ∧ P.U.heap = h ∧ P.cells + kc ≤ R.cells ∧ P.slots + kn ≤ R.slots) (fun P _ v B => ∃ L, Q v B.U.heap L ∧ B.locs = P.locs ++ L ∧ B.cells = P.cells + kc ∧ B.slots = P.slots + kn)) (eT : T.heap = h)
    {g : JFrame} (hg : g.method = m) (hsize : g.locals.size = c.maxLocals) {a : Addr} {argsL rest : List Value} (has : (.ref a :: argsL).toArray = as') (hlen : ∀ sig, parseMethodDescriptor y.desc = some sig → argsL.length = sig.parameters.length)
    (hstack : g.stack = argsL.reverse ++ .ref a :: rest) (hW : 2 * g.monitorRoom + (rest.map fun v => v.category).sum ≤ W) (hdg : decode c.code g.pc = .ok (.invokespecial index, 3)) (hc : cells + kc ≤ R.cells) (hs : slots + kn ≤ R.slots) :
    ∃ (v : Option Value) (T' : State) (L' : List Loc), Stand p l e R s m args below meth c T' (locs ++ L') (cells + kc) (slots + kn) ∧ Q v T'.heap L' ∧
      ∀ t, Steps p.tables e below (T'.setTop { g with pc := g.pc + 3, stack := v.toList ++ rest }) t → Steps p.tables e below (T.setTop g) t := by
  obtain ⟨v, vm1, ⟨T', L, k, n⟩, -, X', ⟨L', hQ, e1, e2, e3⟩, st⟩ := X.specialBack hx hnm hown (mvT hZ w1) (mvT hZ w2) (mvT hZ w4) hy hK hg hsize (Steps.refl _) hlen hstack hW hdg (fun _ _ => ⟨has, eT, hc, hs⟩)
  dsimp only [Pt.U, Pt.locs, Pt.cells, Pt.slots] at X' e1 e2 e3 st hQ
  subst e1 e2 e3
  exact ⟨v, T', L', X', hQ, fun _ k => st.trans k⟩
theorem own_callVB (X : Stand p l e R s m args below meth c T locs cells slots) (hx : p.tables.exec = Jvm.exec) (hZ : Z.Warmed39 s.vm) (hown : s.vm.findClass own = some m.cls) {D : String} (w1 : (Jvm.Cond.methodLink own index y).before a0 Z = true) (w2 : (Jvm.Cond.declares y).before a0 Z = true) (w3 : (Jvm.Cond.selects D y y).before a0 Z = true) (w4 : (Jvm.Cond.instanceMethod y).before a0 Z = true)
    (hy : y.cls ≠ "java/lang/invoke/MethodHandle" ∧ y.cls ≠ "java/lang/invoke/VarHandle") {W kc kn : Nat} {Qb : Option Value → State → List Loc → Prop} (hK : Back l R p e below s args y 3 W (fun P a => a = as' ∧ P.U.heap = h ∧ P.cells + kc ≤ R.cells ∧ P.slots + kn ≤ R.slots) (fun P _ v B => ∃ L, Qb v B.U L ∧ B.locs = P.locs ++ L ∧ B.cells = P.cells + kc ∧ B.slots = P.slots + kn)) (eT : T.heap = h) {a : Addr} (E : Exa Z h a D)
    {g : JFrame} (hg : g.method = m) (hsize : g.locals.size = c.maxLocals) {argsL rest : List Value} (has : (.ref a :: argsL).toArray = as') (hlen : ∀ sig, parseMethodDescriptor y.desc = some sig → argsL.length = sig.parameters.length)
    (hstack : g.stack = argsL.reverse ++ .ref a :: rest) (hW : 2 * g.monitorRoom + (rest.map fun v => v.category).sum ≤ W) (hdg : decode c.code g.pc = .ok (.invokevirtual index, 3)) (hc : cells + kc ≤ R.cells) (hs : slots + kn ≤ R.slots) :
    ∃ (v : Option Value) (T' : State) (L' : List Loc), Stand p l e R s m args below meth c T' (locs ++ L') (cells + kc) (slots + kn) ∧ Qb v T' L' ∧
      ∀ t, Steps p.tables e below (T'.setTop { g with pc := g.pc + 3, stack := v.toList ++ rest }) t → Steps p.tables e below (T.setTop g) t := by
  obtain ⟨cq, kq, qa, qb, qc⟩ := isOf hZ eT E
  obtain ⟨v, vm1, ⟨T', L, k, n⟩, -, X', ⟨L', hQ, e1, e2, e3⟩, st⟩ := X.virtualBack hx hown (mvT hZ w1) (mvT hZ w2) (notFace_of_selects (args := #[]) (mvT hZ w3)) (mvT hZ w3) (mvT hZ w4) hy hK qa qc hg hsize (Steps.refl _) hlen hstack hW hdg (fun _ _ => ⟨has, eT, hc, hs⟩)
  dsimp only [Pt.U, Pt.locs, Pt.cells, Pt.slots] at X' e1 e2 e3 st hQ
  subst e1 e2 e3
  exact ⟨v, T', L', X', hQ, fun _ k => st.trans k⟩
end Calls
section Arrays
variable {a : Addr} {k : ClassId} {ty : FieldType} {z : Int32} {vs : List Value} {dv : Value}
theorem own_alen (X : Stand p l e R s m args below meth c T locs cells slots) (hx : p.tables.exec = Jvm.exec) (hZ : Z.Warmed39 s.vm) (eT : T.heap = h) (V : Arv Z h a k ty z vs dv) {g : JFrame} (hg : g.method = m) {rest : List Value} (hs : g.stack = .ref a :: rest) (hd : decode c.code g.pc = .ok (.arraylength, 1)) {target : State}
    (hr : Steps p.tables e below (T.setTop { g with pc := g.pc + 1, stack := .int z :: rest }) target) : Steps p.tables e below (T.setTop g) target := by
  obtain ⟨cl, Ar, -, S, M, -, -⟩ := V
  refine X.arraylength hx (cell := cl) (by rw [eT]; exact Ar.1) (State.isArrayOf_alike hZ.alike Ar.2.1) hg hs hd _ ?_
  rw [len_of S M]; exact hr
theorem own_aald {C : String} (X : Stand p l e R s m args below meth c T locs cells slots) (hx : p.tables.exec = Jvm.exec) (hZ : Z.Warmed39 s.vm) (eT : T.heap = h) (V : Arv Z h a k (.object C) z vs dv) {j : Int32} (h1 : ¬ j < 0) (h2 : j < z) {g : JFrame} (hg : g.method = m) {rest : List Value} (hs : g.stack = .int j :: .ref a :: rest) (hd : decode c.code g.pc = .ok (.aaload, 1)) {target : State}
    (hr : Steps p.tables e below (T.setTop { g with pc := g.pc + 1, stack := vs.getD j.toNatClampNeg dv :: rest }) target) : Steps p.tables e below (T.setTop g) target := by
  obtain ⟨cl, Ar, -, S, M, H, -⟩ := V
  have hin := inb_of S ⟨h1, h2⟩
  exact X.aaload hx (j := j) (v := vs.getD j.toNatClampNeg dv) (by rw [eT]; exact Ar.1) (State.isArrayOf_alike hZ.alike Ar.2.1) rfl Ar.2.2 hin (Has.at H hin rfl) hg hs hd _ hr
end Arrays
/-- a body that returns r and leaves the heap as it was -/
def own_QP (r : Option Value) (h0 : Heap) (n0 : Nat) (v : Option Value) (h : Heap) (L : List Loc) : Prop := v = r ∧ Fr n0 L ∧ h = h0
end OwnKit
section OwnPriv
variable {p : Program} {l : Launch} {e : Env} {R : Room} {s : State} {m : MethodId} {args : Array Value} {below : List Frame} {meth : Method} {c : Code} {T : State} {locs : List Loc} {cells slots : Nat} {Z : State} {a0 : Array Value} {h : Heap}
variable {own : String} {index : Nat} {y : MethodName} {bytes : ByteArray} {maxL : Nat} {ret : Option FieldType} {rm : Room} {as' : Array Value} {Q : Option Value → Heap → List Loc → Prop}
theorem own_sel (hZ : Z.Warmed39 s.vm) {n : Nat} (wi : (Jvm.Cond.instantiable y.cls n).before a0 Z = true) (w2 : (Jvm.Cond.instanceMethod y).before a0 Z = true) (w3 : (Jvm.Cond.privateMethod y).before a0 Z = true) (hy : y.cls ≠ "java/lang/invoke/MethodHandle" ∧ y.cls ≠ "java/lang/invoke/VarHandle") : (Jvm.Cond.selects y.cls y y).before args s = true := by
  have wi' : (Jvm.Cond.instantiable y.cls n).before args s = true := mvT hZ wi
  obtain ⟨c, k, h1, h2, h3, h4, -⟩ := Cond.instantiable_spec wi'
  exact selects_self_of_private h1 h2 (Bool.or_eq_false_iff.mp h4).1 (Cond.privateMethod_at (mvP hZ w3 (args := args))) (mvT hZ w2) hy
/-- an invokevirtual of a private method by its contract -/
theorem own_callP (X : Stand p l e R s m args below meth c T locs cells slots) (hx : p.tables.exec = Jvm.exec) (hZ : Z.Warmed39 s.vm) (hown : s.vm.findClass own = some m.cls) (w1 : (Jvm.Cond.methodLink own index y).before a0 Z = true) (w2 : (Jvm.Cond.instanceMethod y).before a0 Z = true) (w3 : (Jvm.Cond.privateMethod y).before a0 Z = true) {nI : Nat} (wi : (Jvm.Cond.instantiable y.cls nI).before a0 Z = true) (w5 : (Jvm.Cond.initialized y.cls).before a0 Z = true) (w6 : (Jvm.Cond.code y bytes maxL ret).before a0 Z = true)
    (hy : y.cls ≠ "java/lang/invoke/MethodHandle" ∧ y.cls ≠ "java/lang/invoke/VarHandle") {W : Nat} (hM : own_Met l y bytes maxL ret rm [] as' Z h rm.cells rm.slots Q) (hf : rm.frames + 1 ≤ R.frames) (hl : W + (maxL + 11) + rm.locals ≤ R.locals) (eT : T.heap = h) {a : Addr} {D : String} (E : Exa Z h a D)
    {g : JFrame} (hg : g.method = m) (hsize : g.locals.size = c.maxLocals) {argsL rest : List Value} (has : (.ref a :: argsL).toArray = as') (hlen : ∀ sig, parseMethodDescriptor y.desc = some sig → argsL.length = sig.parameters.length)
    (hstack : g.stack = argsL.reverse ++ .ref a :: rest) (hW : 2 * g.monitorRoom + (rest.map fun v => v.category).sum ≤ W) (hdg : decode c.code g.pc = .ok (.invokevirtual index, 3)) (hc : cells + rm.cells ≤ R.cells) (hs : slots + rm.slots ≤ R.slots) :
    ∃ (v : Option Value) (T' : State) (L' : List Loc), Stand p l e R s m args below meth c T' (locs ++ L') (cells + rm.cells) (slots + rm.slots) ∧ Q v T'.heap L' ∧
      ∀ t, Steps p.tables e below (T'.setTop { g with pc := g.pc + 3, stack := v.toList ++ rest }) t → Steps p.tables e below (T.setTop g) t := by
  obtain ⟨cq, kq, qa, qb, cellB, hcT, -, hst⟩ := isOf hZ eT E
  obtain ⟨v, vm1, ⟨T', L, k, n⟩, -, X', ⟨L', hQ, e1, e2, e3⟩, st⟩ := X.privateBack hx hown (mvT hZ w1) (mvT hZ w2) (own_sel hZ wi w2 w3 hy) (Cond.privateMethod_at (mvP hZ w3 (args := args))) (mvT hZ w6) hy (backOf (W := W) hM hZ w6 w5 hf hl) hg hsize (Steps.refl _) hcT (fun q h => by rw [h] at hst; cases hst) hlen hstack hW hdg (fun _ _ => ⟨has, eT, hc, hs⟩)
  dsimp only [Pt.U, Pt.locs, Pt.cells, Pt.slots] at X' e1 e2 e3 st hQ
  subst e1 e2 e3
  exact ⟨v, T', L', X', hQ, fun _ k => st.trans k⟩
variable {a : Addr} {k : ClassId} {z : Int32} {vs : List Value} {dv : Value}
theorem own_bald (X : Stand p l e R s m args below meth c T locs cells slots) (hx : p.tables.exec = Jvm.exec) (hZ : Z.Warmed39 s.vm) (eT : T.heap = h) (V : Arv Z h a k .byte z vs dv) {j : Int32} (h1 : ¬ j < 0) (h2 : j < z) {g : JFrame} (hg : g.method = m) {rest : List Value} (hs : g.stack = .int j :: .ref a :: rest) (hd : decode c.code g.pc = .ok (.baload, 1)) {target : State}
    (hr : Steps p.tables e below (T.setTop { g with pc := g.pc + 1, stack := vs.getD j.toNatClampNeg dv :: rest }) target) : Steps p.tables e below (T.setTop g) target := by
  obtain ⟨cl, Ar, -, S, M, H, -⟩ := V
  have hin := inb_of S ⟨h1, h2⟩
  exact X.baloadBytes hx (j := j) (v := vs.getD j.toNatClampNeg dv) (by rw [eT]; exact Ar.1) (State.isArrayOf_alike hZ.alike Ar.2.1) Ar.2.2 hin (Has.at H hin rfl) hg hs hd _ hr
theorem own_cald (X : Stand p l e R s m args below meth c T locs cells slots) (hx : p.tables.exec = Jvm.exec) (hZ : Z.Warmed39 s.vm) (eT : T.heap = h) (V : Arv Z h a k .char z vs dv) {j : Int32} (h1 : ¬ j < 0) (h2 : j < z) {g : JFrame} (hg : g.method = m) {rest : List Value} (hs : g.stack = .int j :: .ref a :: rest) (hd : decode c.code g.pc = .ok (.caload, 1)) {target : State}
    (hr : Steps p.tables e below (T.setTop { g with pc := g.pc + 1, stack := vs.getD j.toNatClampNeg dv :: rest }) target) : Steps p.tables e below (T.setTop g) target := by
  obtain ⟨cl, Ar, -, S, M, H, -⟩ := V
  have hin := inb_of S ⟨h1, h2⟩
  exact X.caload hx (j := j) (v := vs.getD j.toNatClampNeg dv) (by rw [eT]; exact Ar.1) (State.isArrayOf_alike hZ.alike Ar.2.1) Ar.2.2 hin (Has.at H hin rfl) hg hs hd _ hr
theorem own_lt_ne {a b : Addr} {n : Nat} (q : a < n) (r : n ≤ b) : a ≠ b := Nat.ne_of_lt (Nat.lt_of_lt_of_le q r)
end OwnPriv
theorem own_narb (c : Int32) : nar .byte (c.toInt8.toInt32) = c.toInt8.toInt32 := by simp [nar]
theorem own_r (z : Int32) (n m : Int) (h1 : n ≤ z.toInt) (h2 : z.toInt ≤ m) (P : Int32 → Prop) (hP : ∀ k : Fin (m - n + 1).toNat, P (Int32.ofInt (n + k.1))) : P z := by
  have := hP ⟨(z.toInt - n).toNat, by omega⟩
  have e : n + ((z.toInt - n).toNat : Int) = z.toInt := by omega
  simp only [e, Int32.ofInt_toInt] at this
  exact this
theorem own_b8 {z lo : Int32} {n : Int} (e : lo.toInt = n) (h : ¬ z < lo ∧ z < 8) : n ≤ z.toInt ∧ z.toInt ≤ 7 := by
  have h1 := h.1; have h2 := h.2
  rw [Int32.lt_iff_toInt_lt] at h1 h2
  have e8 : (8 : Int32).toInt = 8 := by decide
  omega
theorem own_lt0 {z : Int32} (h : ¬ z < (1 : Int32) ∧ z < 8) : (0 : Int32) < z := by
  have q := own_b8 (n := 1) (by decide) h
  exact own_r z 1 7 q.1 q.2 (fun z => (0 : Int32) < z) (by decide +kernel)
theorem own_lt1 {z : Int32} (h : ¬ z < (2 : Int32) ∧ z < 8) : (1 : Int32) < z := by
  have q := own_b8 (n := 2) (by decide) h
  exact own_r z 2 7 q.1 q.2 (fun z => (1 : Int32) < z) (by decide +kernel)
theorem own_lt3 {z : Int32} (h : ¬ z < (4 : Int32) ∧ z < 8) : (3 : Int32) < z := by
  have q := own_b8 (n := 4) (by decide) h
  exact own_r z 4 7 q.1 q.2 (fun z => (3 : Int32) < z) (by decide +kernel)
theorem own_wk4_1 {z : Int32} (h : ¬ z < (4 : Int32) ∧ z < 8) : ¬ z < (1 : Int32) ∧ z < 8 := by
  have q := own_b8 (n := 4) (by decide) h
  exact own_r z 4 7 q.1 q.2 (fun z => ¬ z < (1 : Int32) ∧ z < 8) (by decide +kernel)
theorem own_wk4_2 {z : Int32} (h : ¬ z < (4 : Int32) ∧ z < 8) : ¬ z < (2 : Int32) ∧ z < 8 := by
  have q := own_b8 (n := 4) (by decide) h
  exact own_r z 4 7 q.1 q.2 (fun z => ¬ z < (2 : Int32) ∧ z < 8) (by decide +kernel)
theorem own_wk2_1 {z : Int32} (h : ¬ z < (2 : Int32) ∧ z < 8) : ¬ z < (1 : Int32) ∧ z < 8 := by
  have q := own_b8 (n := 2) (by decide) h
  exact own_r z 2 7 q.1 q.2 (fun z => ¬ z < (1 : Int32) ∧ z < 8) (by decide +kernel)
theorem own_ng01 {z : Int32} (h : ¬ z < (1 : Int32) ∧ z < 8) : ¬ (z.toInt64) < (((0 : Int32).toInt64) + (1 : Int64)) := by
  have q := own_b8 (n := 1) (by decide) h
  exact own_r z 1 7 q.1 q.2 (fun z => ¬ (z.toInt64) < (((0 : Int32).toInt64) + (1 : Int64))) (by decide +kernel)
theorem own_ng11 {z : Int32} (h : ¬ z < (2 : Int32) ∧ z < 8) : ¬ (z.toInt64) < (((1 : Int32).toInt64) + (1 : Int64)) := by
  have q := own_b8 (n := 2) (by decide) h
  exact own_r z 2 7 q.1 q.2 (fun z => ¬ (z.toInt64) < (((1 : Int32).toInt64) + (1 : Int64))) (by decide +kernel)
theorem own_ng22 {z : Int32} (h : ¬ z < (4 : Int32) ∧ z < 8) : ¬ (z.toInt64) < (((2 : Int32).toInt64) + (2 : Int64)) := by
  have q := own_b8 (n := 4) (by decide) h
  exact own_r z 4 7 q.1 q.2 (fun z => ¬ (z.toInt64) < (((2 : Int32).toInt64) + (2 : Int64))) (by decide +kernel)
theorem own_z4n {z : Int32} (h : ¬ z < (4 : Int32) ∧ z < 8) : (2 : Int32).toNatClampNeg + (2 : Int32).toNatClampNeg ≤ z.toNatClampNeg := by
  have q := own_b8 (n := 4) (by decide) h
  exact own_r z 4 7 q.1 q.2 (fun z => (2 : Int32).toNatClampNeg + (2 : Int32).toNatClampNeg ≤ z.toNatClampNeg) (by decide +kernel)
theorem own_z4a {z : Int32} (h : ¬ z < (4 : Int32) ∧ z < 8) : ¬ ((z ||| (2 : Int32)) ||| (2 : Int32)) < (0 : Int32) := by
  have q := own_b8 (n := 4) (by decide) h
  exact own_r z 4 7 q.1 q.2 (fun z => ¬ ((z ||| (2 : Int32)) ||| (2 : Int32)) < (0 : Int32)) (by decide +kernel)
theorem own_z4b {z : Int32} (h : ¬ z < (4 : Int32) ∧ z < 8) : ¬ (z - (2 : Int32)) < (2 : Int32) := by
  have q := own_b8 (n := 4) (by decide) h
  exact own_r z 4 7 q.1 q.2 (fun z => ¬ (z - (2 : Int32)) < (2 : Int32)) (by decide +kernel)
theorem own_hn {z : Int32} (h : ¬ z < (4 : Int32) ∧ z < 8) : ¬ z < 0 := by
  have q := own_b8 (n := 4) (by decide) h
  exact own_r z 4 7 q.1 q.2 (fun z => ¬ z < 0) (by decide +kernel)
theorem own_hc {z : Int32} (h : ¬ z < (4 : Int32) ∧ z < 8) : z.toNatClampNeg ≤ 7 := by
  have q := own_b8 (n := 4) (by decide) h
  exact own_r z 4 7 q.1 q.2 (fun z => z.toNatClampNeg ≤ 7) (by decide +kernel)
theorem own_narc (c : Int32) (h : ¬ c < 0 ∧ ¬ (255 : Int32) < c) : nar .char c = c := by
  have h1 : 0 ≤ c.toInt := by have := h.1; rw [XT.negI32] at this; omega
  have h2 : c.toInt ≤ 255 := by
    have := h.2; rw [Int32.lt_iff_toInt_lt] at this
    have h5 : (255 : Int32).toInt = 255 := by decide
    omega
  show c.toUInt32.toUInt16.toUInt32.toInt32 = c
  apply Int32.toInt_inj.mp
  have hb : c.toInt = (c.toBitVec.toNat : Int).bmod (2 ^ 32) := BitVec.toInt_eq_toNat_bmod c.toBitVec
  have hn := c.toBitVec.isLt
  have e1 : c.toBitVec.toNat < 256 := by
    rw [hb, Int.bmod_def] at h1 h2
    split at h1 <;> omega
  have e2 : (c.toUInt32.toUInt16.toUInt32.toInt32).toBitVec.toNat = c.toBitVec.toNat % 65536 := rfl
  have hb2 : (c.toUInt32.toUInt16.toUInt32.toInt32).toInt = (((c.toUInt32.toUInt16.toUInt32.toInt32).toBitVec.toNat : Nat) : Int).bmod (2 ^ 32) := BitVec.toInt_eq_toNat_bmod _
  rw [hb2, hb, e2, Nat.mod_eq_of_lt (by omega)]
theorem own_b255 (i : Int32) : ¬ (i &&& (255 : Int32)) < 0 ∧ ¬ (255 : Int32) < (i &&& 255) := by
  rw [XT.negI32, Int32.lt_iff_toInt_lt]
  have hm : (i &&& 255).toInt = i.toInt % (2 ^ 8 : Nat) := c_mask i 255 8 (by decide) (by decide)
  have h5 : (255 : Int32).toInt = 255 := by decide
  rw [h5, hm]; omega
theorem own_i2c (i : Int32) : (i &&& (255 : Int32)).toUInt32.toUInt16.toUInt32.toInt32 = i &&& 255 := own_narc _ (own_b255 i)
theorem own_up {cs : List Int32} (h : ∀ c ∈ cs, ¬ c < 0 ∧ ¬ (255 : Int32) < c) : ∀ c ∈ cs, ¬ c < 0 ∧ ¬ (65535 : Int32) < c := fun c hc => by
  refine ⟨(h c hc).1, fun q => (h c hc).2 ?_⟩
  rw [Int32.lt_iff_toInt_lt] at *
  have h1 : (65535 : Int32).toInt = 65535 := by decide
  have h2 : (255 : Int32).toInt = 255 := by decide
  omega
theorem own_b127 (i : Int32) : ¬ (i &&& (127 : Int32)) < 0 ∧ ¬ (255 : Int32) < (i &&& 127) := by
  rw [XT.negI32, Int32.lt_iff_toInt_lt]
  have hm : (i &&& 127).toInt = i.toInt % (2 ^ 7 : Nat) := c_mask i 127 7 (by decide) (by decide)
  have h5 : (255 : Int32).toInt = 255 := by decide
  rw [h5, hm]; omega
theorem own_c7 (i : Int32) : ¬ nar .char (((i &&& (127 : Int32)).toUInt32.toUInt16.toUInt32.toInt32)) < 0 ∧ ¬ (255 : Int32) < nar .char (((i &&& (127 : Int32)).toUInt32.toUInt16.toUInt32.toInt32)) := by
  have h := own_b127 i
  have e : (i &&& (127 : Int32)).toUInt32.toUInt16.toUInt32.toInt32 = i &&& 127 := own_narc _ h
  rw [e, own_narc _ h]; exact h
theorem own_cap (i : Int32) : i &&& (7 : Int32) = 0 ∨ i &&& (7 : Int32) = 1 ∨ i &&& (7 : Int32) = 2 ∨ i &&& (7 : Int32) = 3 ∨ (¬ (i &&& (7 : Int32)) < (4 : Int32) ∧ (i &&& (7 : Int32)) < 8) := by
  have hm : (i &&& 7).toInt = i.toInt % (2 ^ 3 : Nat) := c_mask i 7 3 (by decide) (by decide)
  exact own_r (i &&& 7) 0 7 (by rw [hm]; omega) (by rw [hm]; omega) (fun z => z = 0 ∨ z = 1 ∨ z = 2 ∨ z = 3 ∨ (¬ z < (4 : Int32) ∧ z < 8)) (by decide +kernel)
theorem d1_0 : decode jdk_29_method_66_code 0 = .ok (.lload_n 0, 1) := by decide +kernel
theorem d1_1 : decode jdk_29_method_66_code 1 = .ok (.lload_n 2, 1) := by decide +kernel
theorem d1_2 : decode jdk_29_method_66_code 2 = .ok (.lcmp, 1) := by decide +kernel
theorem d1_3 : decode jdk_29_method_66_code 3 = .ok (.ifCond .lt 7, 3) := by decide +kernel
theorem d1_6 : decode jdk_29_method_66_code 6 = .ok (.lload_n 0, 1) := by decide +kernel
theorem d1_7 : decode jdk_29_method_66_code 7 = .ok (.goto 4, 3) := by decide +kernel
theorem d1_10 : decode jdk_29_method_66_code 10 = .ok (.lload_n 2, 1) := by decide +kernel
theorem d1_11 : decode jdk_29_method_66_code 11 = .ok (.lreturn, 1) := by decide +kernel
theorem pd0 : parseMethodDescriptor "(JJ)J" = some ⟨[.long, .long], some .long⟩ := by decide +kernel
theorem ef1 (m : MethodId) (j1 : Int64) (j2 : Int64) : entryFrame m #[(.long j1), (.long j2)] 4 = mkF m 0 #[.val (.long j1), .second, .val (.long j2), .second] [] := by first | (simp [entryFrame, mkF, argsToLocals, Value.category]; done) | rfl
def f1 (j1 : Int64) (j2 : Int64) : Int64 := (if j1 < j2 then j2 else j1)
set_option maxRecDepth 65536 in
set_option maxHeartbeats 40000000 in
theorem rm1 (l : Launch) (Z : State) (a0 : Array Value) (hw : ∀ d ∈ tables_1, d.before a0 Z = true) (ws : List Jvm.Cond) (j1 : Int64) (j2 : Int64) (h0 : Heap) (n0 : Nat) (Z0 : n0 ≤ h0.size)  :
    own_Met l (⟨"java/lang/Math", "max", "(JJ)J"⟩ : MethodName) jdk_29_method_66_code 4 (some .long) ({ frames := 0, cells := 0, slots := 0, locals := 0 } : Room) ws #[(.long j1), (.long j2)] Z h0 0 0 (own_QP (some (.long (f1 j1 j2))) h0 n0) := by
  refine own_met (Jvm.Free.JP.mathPlain rfl (by decide +kernel)) ?_
  intro p e s m below meth c s₁ hx hby hml hown hnm hret hlk hZ e0 X0
  have hml : c.maxLocals = 4 := hml
  have N0 := Fr.nil n0
  have K0 := Keep.refl h0 []
  refine own_go (fun _ k => castTop (ef1 m j1 j2) k) ?_
  show own_Fin p.tables e below _ (s₁.setTop (mkF m 0 #[.val (.long j1), .second, .val (.long j2), .second] []))
  refine own_go (fun _ k => XT.lloadN X0.here hx rfl (hb hby d1_0) rfl k) ?_
  show own_Fin p.tables e below _ (s₁.setTop (mkF m 1 #[.val (.long j1), .second, .val (.long j2), .second] [(.long j1)]))
  refine own_go (fun _ k => XT.lloadN X0.here hx rfl (hb hby d1_1) rfl k) ?_
  show own_Fin p.tables e below _ (s₁.setTop (mkF m 2 #[.val (.long j1), .second, .val (.long j2), .second] [(.long j2), (.long j1)]))
  refine own_go (fun _ k => XT.lcmp X0.here hx rfl (hb hby d1_2) rfl k) ?_
  show own_Fin p.tables e below _ (s₁.setTop (mkF m 3 #[.val (.long j1), .second, .val (.long j2), .second] [(.int (XT.cmpL j1 j2))]))
  by_cases hc1 : j1 < j2
  · refine own_go (fun _ k => XS.ifYes X0.here hx rfl (pc0 := 3) (pc' := 10) rfl (hb hby d1_3) rfl (XT.ll_lt_t hc1) (by decide) (by decide) k) ?_
    show own_Fin p.tables e below _ (s₁.setTop (mkF m 10 #[.val (.long j1), .second, .val (.long j2), .second] []))
    refine own_go (fun _ k => XT.lloadN X0.here hx rfl (hb hby d1_10) rfl k) ?_
    show own_Fin p.tables e below _ (s₁.setTop (mkF m 11 #[.val (.long j1), .second, .val (.long j2), .second] [(.long j2)]))
    refine own_retJ X0 hx hlk hret (hb hby d1_11) ?_ (by decide) (by decide)
    exact ⟨by rw [show f1 j1 j2 = j2 from by simp only [f1, if_pos hc1]] <;> rfl, N0, e0⟩
  · refine own_go (fun _ k => XS.ifNo X0.here hx rfl (hb hby d1_3) rfl (XT.ll_lt_f hc1) k) ?_
    show own_Fin p.tables e below _ (s₁.setTop (mkF m 6 #[.val (.long j1), .second, .val (.long j2), .second] []))
    refine own_go (fun _ k => XT.lloadN X0.here hx rfl (hb hby d1_6) rfl k) ?_
    show own_Fin p.tables e below _ (s₁.setTop (mkF m 7 #[.val (.long j1), .second, .val (.long j2), .second] [(.long j1)]))
    refine own_go (fun _ k => XS.goto X0.here hx rfl (pc0 := 7) (pc' := 11) rfl (hb hby d1_7) (by decide) (by decide) k) ?_
    show own_Fin p.tables e below _ (s₁.setTop (mkF m 11 #[.val (.long j1), .second, .val (.long j2), .second] [(.long j1)]))
    refine own_retJ X0 hx hlk hret (hb hby d1_11) ?_ (by decide) (by decide)
    exact ⟨by rw [show f1 j1 j2 = j1 from by simp only [f1, if_neg hc1]] <;> rfl, N0, e0⟩
theorem d2_0 : decode jdk_29_method_70_code 0 = .ok (.lload_n 0, 1) := by decide +kernel
theorem d2_1 : decode jdk_29_method_70_code 1 = .ok (.lload_n 2, 1) := by decide +kernel
theorem d2_2 : decode jdk_29_method_70_code 2 = .ok (.lcmp, 1) := by decide +kernel
theorem d2_3 : decode jdk_29_method_70_code 3 = .ok (.ifCond .gt 7, 3) := by decide +kernel
theorem d2_6 : decode jdk_29_method_70_code 6 = .ok (.lload_n 0, 1) := by decide +kernel
theorem d2_7 : decode jdk_29_method_70_code 7 = .ok (.goto 4, 3) := by decide +kernel
theorem d2_10 : decode jdk_29_method_70_code 10 = .ok (.lload_n 2, 1) := by decide +kernel
theorem d2_11 : decode jdk_29_method_70_code 11 = .ok (.lreturn, 1) := by decide +kernel
theorem ef2 (m : MethodId) (j1 : Int64) (j2 : Int64) : entryFrame m #[(.long j1), (.long j2)] 4 = mkF m 0 #[.val (.long j1), .second, .val (.long j2), .second] [] := by first | (simp [entryFrame, mkF, argsToLocals, Value.category]; done) | rfl
def f2 (j1 : Int64) (j2 : Int64) : Int64 := (if j2 < j1 then j2 else j1)
set_option maxRecDepth 65536 in
set_option maxHeartbeats 40000000 in
theorem rm2 (l : Launch) (Z : State) (a0 : Array Value) (hw : ∀ d ∈ tables_1, d.before a0 Z = true) (ws : List Jvm.Cond) (j1 : Int64) (j2 : Int64) (h0 : Heap) (n0 : Nat) (Z0 : n0 ≤ h0.size)  :
    own_Met l (⟨"java/lang/Math", "min", "(JJ)J"⟩ : MethodName) jdk_29_method_70_code 4 (some .long) ({ frames := 0, cells := 0, slots := 0, locals := 0 } : Room) ws #[(.long j1), (.long j2)] Z h0 0 0 (own_QP (some (.long (f2 j1 j2))) h0 n0) := by
  refine own_met (Jvm.Free.JP.mathPlain rfl (by decide +kernel)) ?_
  intro p e s m below meth c s₁ hx hby hml hown hnm hret hlk hZ e0 X0
  have hml : c.maxLocals = 4 := hml
  have N0 := Fr.nil n0
  have K0 := Keep.refl h0 []
  refine own_go (fun _ k => castTop (ef2 m j1 j2) k) ?_
  show own_Fin p.tables e below _ (s₁.setTop (mkF m 0 #[.val (.long j1), .second, .val (.long j2), .second] []))
  refine own_go (fun _ k => XT.lloadN X0.here hx rfl (hb hby d2_0) rfl k) ?_
  show own_Fin p.tables e below _ (s₁.setTop (mkF m 1 #[.val (.long j1), .second, .val (.long j2), .second] [(.long j1)]))
  refine own_go (fun _ k => XT.lloadN X0.here hx rfl (hb hby d2_1) rfl k) ?_
  show own_Fin p.tables e below _ (s₁.setTop (mkF m 2 #[.val (.long j1), .second, .val (.long j2), .second] [(.long j2), (.long j1)]))
  refine own_go (fun _ k => XT.lcmp X0.here hx rfl (hb hby d2_2) rfl k) ?_
  show own_Fin p.tables e below _ (s₁.setTop (mkF m 3 #[.val (.long j1), .second, .val (.long j2), .second] [(.int (XT.cmpL j1 j2))]))
  by_cases hc1 : j2 < j1
  · refine own_go (fun _ k => XS.ifYes X0.here hx rfl (pc0 := 3) (pc' := 10) rfl (hb hby d2_3) rfl (XT.ll_gt_t hc1) (by decide) (by decide) k) ?_
    show own_Fin p.tables e below _ (s₁.setTop (mkF m 10 #[.val (.long j1), .second, .val (.long j2), .second] []))
    refine own_go (fun _ k => XT.lloadN X0.here hx rfl (hb hby d2_10) rfl k) ?_
    show own_Fin p.tables e below _ (s₁.setTop (mkF m 11 #[.val (.long j1), .second, .val (.long j2), .second] [(.long j2)]))
    refine own_retJ X0 hx hlk hret (hb hby d2_11) ?_ (by decide) (by decide)
    exact ⟨by rw [show f2 j1 j2 = j2 from by simp only [f2, if_pos hc1]] <;> rfl, N0, e0⟩
  · refine own_go (fun _ k => XS.ifNo X0.here hx rfl (hb hby d2_3) rfl (XT.ll_gt_f hc1) k) ?_
    show own_Fin p.tables e below _ (s₁.setTop (mkF m 6 #[.val (.long j1), .second, .val (.long j2), .second] []))
    refine own_go (fun _ k => XT.lloadN X0.here hx rfl (hb hby d2_6) rfl k) ?_
    show own_Fin p.tables e below _ (s₁.setTop (mkF m 7 #[.val (.long j1), .second, .val (.long j2), .second] [(.long j1)]))
    refine own_go (fun _ k => XS.goto X0.here hx rfl (pc0 := 7) (pc' := 11) rfl (hb hby d2_7) (by decide) (by decide) k) ?_
    show own_Fin p.tables e below _ (s₁.setTop (mkF m 11 #[.val (.long j1), .second, .val (.long j2), .second] [(.long j1)]))
    refine own_retJ X0 hx hlk hret (hb hby d2_11) ?_ (by decide) (by decide)
    exact ⟨by rw [show f2 j1 j2 = j1 from by simp only [f2, if_neg hc1]] <;> rfl, N0, e0⟩
theorem d3_0 : decode jdk_29_method_69_code 0 = .ok (.iload_n 0, 1) := by decide +kernel
theorem d3_1 : decode jdk_29_method_69_code 1 = .ok (.iload_n 1, 1) := by decide +kernel
theorem d3_2 : decode jdk_29_method_69_code 2 = .ok (.if_icmp .gt 7, 3) := by decide +kernel
theorem d3_5 : decode jdk_29_method_69_code 5 = .ok (.iload_n 0, 1) := by decide +kernel
theorem d3_6 : decode jdk_29_method_69_code 6 = .ok (.goto 4, 3) := by decide +kernel
theorem d3_9 : decode jdk_29_method_69_code 9 = .ok (.iload_n 1, 1) := by decide +kernel
theorem d3_10 : decode jdk_29_method_69_code 10 = .ok (.ireturn, 1) := by decide +kernel
theorem pd1 : parseMethodDescriptor "(II)I" = some ⟨[.int, .int], some .int⟩ := by decide +kernel
theorem ef3 (m : MethodId) (i1 : Int32) (i2 : Int32) : entryFrame m #[(.int i1), (.int i2)] 2 = mkF m 0 #[.val (.int i1), .val (.int i2)] [] := by first | (simp [entryFrame, mkF, argsToLocals, Value.category]; done) | rfl
def f3 (i1 : Int32) (i2 : Int32) : Int32 := (if i2 < i1 then i2 else i1)
set_option maxRecDepth 65536 in
set_option maxHeartbeats 40000000 in
theorem rm3 (l : Launch) (Z : State) (a0 : Array Value) (hw : ∀ d ∈ tables_1, d.before a0 Z = true) (ws : List Jvm.Cond) (i1 : Int32) (i2 : Int32) (h0 : Heap) (n0 : Nat) (Z0 : n0 ≤ h0.size)  :
    own_Met l (⟨"java/lang/Math", "min", "(II)I"⟩ : MethodName) jdk_29_method_69_code 2 (some .int) ({ frames := 0, cells := 0, slots := 0, locals := 0 } : Room) ws #[(.int i1), (.int i2)] Z h0 0 0 (own_QP (some (.int (f3 i1 i2))) h0 n0) := by
  refine own_met (Jvm.Free.JP.mathPlain rfl (by decide +kernel)) ?_
  intro p e s m below meth c s₁ hx hby hml hown hnm hret hlk hZ e0 X0
  have hml : c.maxLocals = 2 := hml
  have N0 := Fr.nil n0
  have K0 := Keep.refl h0 []
  refine own_go (fun _ k => castTop (ef3 m i1 i2) k) ?_
  show own_Fin p.tables e below _ (s₁.setTop (mkF m 0 #[.val (.int i1), .val (.int i2)] []))
  refine own_go (fun _ k => XS.iloadN X0.here hx rfl (hb hby d3_0) rfl k) ?_
  show own_Fin p.tables e below _ (s₁.setTop (mkF m 1 #[.val (.int i1), .val (.int i2)] [(.int i1)]))
  refine own_go (fun _ k => XS.iloadN X0.here hx rfl (hb hby d3_1) rfl k) ?_
  show own_Fin p.tables e below _ (s₁.setTop (mkF m 2 #[.val (.int i1), .val (.int i2)] [(.int i2), (.int i1)]))
  by_cases hc1 : i2 < i1
  · refine own_go (fun _ k => XS.icmpYes X0.here hx rfl (pc0 := 2) (pc' := 9) rfl (hb hby d3_2) rfl (XT.ii_gt_t hc1) (by decide) (by decide) k) ?_
    show own_Fin p.tables e below _ (s₁.setTop (mkF m 9 #[.val (.int i1), .val (.int i2)] []))
    refine own_go (fun _ k => XS.iloadN X0.here hx rfl (hb hby d3_9) rfl k) ?_
    show own_Fin p.tables e below _ (s₁.setTop (mkF m 10 #[.val (.int i1), .val (.int i2)] [(.int i2)]))
    refine own_retI X0 hx hlk hret (hb hby d3_10) ?_ (by decide) (by decide)
    exact ⟨by rw [show f3 i1 i2 = i2 from by simp only [f3, if_pos hc1]] <;> rfl, N0, e0⟩
  · refine own_go (fun _ k => XS.icmpNo X0.here hx rfl (hb hby d3_2) rfl (XT.ii_gt_f hc1) k) ?_
    show own_Fin p.tables e below _ (s₁.setTop (mkF m 5 #[.val (.int i1), .val (.int i2)] []))
    refine own_go (fun _ k => XS.iloadN X0.here hx rfl (hb hby d3_5) rfl k) ?_
    show own_Fin p.tables e below _ (s₁.setTop (mkF m 6 #[.val (.int i1), .val (.int i2)] [(.int i1)]))
    refine own_go (fun _ k => XS.goto X0.here hx rfl (pc0 := 6) (pc' := 10) rfl (hb hby d3_6) (by decide) (by decide) k) ?_
    show own_Fin p.tables e below _ (s₁.setTop (mkF m 10 #[.val (.int i1), .val (.int i2)] [(.int i1)]))
    refine own_retI X0 hx hlk hret (hb hby d3_10) ?_ (by decide) (by decide)
    exact ⟨by rw [show f3 i1 i2 = i1 from by simp only [f3, if_neg hc1]] <;> rfl, N0, e0⟩
theorem dc01_0 : decode jdk_65_method_121_code 0 = .ok (.iload_n 1, 1) := by decide +kernel
theorem dc01_1 : decode jdk_65_method_121_code 1 = .ok (.aload_n 0, 1) := by decide +kernel
theorem dc01_2 : decode jdk_65_method_121_code 2 = .ok (.arraylength, 1) := by decide +kernel
theorem dc01_3 : decode jdk_65_method_121_code 3 = .ok (.if_icmp .ne 11, 3) := by decide +kernel
theorem dc01_14 : decode jdk_65_method_121_code 14 = .ok (.iload_n 1, 1) := by decide +kernel
theorem dc01_15 : decode jdk_65_method_121_code 15 = .ok (.newarray .byte, 2) := by decide +kernel
theorem dc01_17 : decode jdk_65_method_121_code 17 = .ok (.astore_n 2, 1) := by decide +kernel
theorem dc01_18 : decode jdk_65_method_121_code 18 = .ok (.aload_n 0, 1) := by decide +kernel
theorem dc01_19 : decode jdk_65_method_121_code 19 = .ok (.iconst 0, 1) := by decide +kernel
theorem dc01_20 : decode jdk_65_method_121_code 20 = .ok (.aload_n 2, 1) := by decide +kernel
theorem dc01_21 : decode jdk_65_method_121_code 21 = .ok (.iconst 0, 1) := by decide +kernel
theorem dc01_22 : decode jdk_65_method_121_code 22 = .ok (.aload_n 0, 1) := by decide +kernel
theorem dc01_23 : decode jdk_65_method_121_code 23 = .ok (.arraylength, 1) := by decide +kernel
theorem dc01_24 : decode jdk_65_method_121_code 24 = .ok (.iload_n 1, 1) := by decide +kernel
theorem dc01_25 : decode jdk_65_method_121_code 25 = .ok (.invokestatic 304, 3) := by decide +kernel
theorem dc01_28 : decode jdk_65_method_121_code 28 = .ok (.invokestatic 150, 3) := by decide +kernel
theorem dc01_31 : decode jdk_65_method_121_code 31 = .ok (.aload_n 2, 1) := by decide +kernel
theorem dc01_32 : decode jdk_65_method_121_code 32 = .ok (.areturn, 1) := by decide +kernel
theorem pn0 : plainName "java/util/Arrays" = true := by first | (simp [plainName, overriddenIn]; done) | decide +kernel
theorem pd2 : parseMethodDescriptor "([BI)[B" = some ⟨[(.array .byte), .int], some (.array .byte)⟩ := by decide +kernel
theorem efc01 (m : MethodId) (r0 : Addr) : entryFrame m #[(.ref r0), (.int (1 : Int32))] 3 = mkF m 0 #[.val (.ref r0), .val (.int (1 : Int32)), .unset] [] := by first | (simp [entryFrame, mkF, argsToLocals, Value.category]; done) | rfl
set_option maxRecDepth 65536 in
set_option maxHeartbeats 40000000 in
theorem rmc01 (l : Launch) (Z : State) (a0 : Array Value) (hw : ∀ d ∈ tables_1, d.before a0 Z = true) (ws : List Jvm.Cond) (r0 : Addr) (h0 : Heap) (n0 : Nat) (Z0 : n0 ≤ h0.size) (k5 : ClassId) (A_t : Arv Z h0 r0 k5 .byte (0 : Int32) [] (.int (0 : Int32))) :
    own_Met l (⟨"java/util/Arrays", "copyOf", "([BI)[B"⟩ : MethodName) jdk_65_method_121_code 3 (some (.array .byte)) ({ frames := 1, cells := 1, slots := 1, locals := 27 } : Room) ws #[(.ref r0), (.int (1 : Int32))] Z h0 1 1 (fun v h L => ∃ b k, v = some (.ref b) ∧ Fr n0 L ∧ Keep h0 h [] ∧ h0.size ≤ b ∧ Arv Z h b k .byte (1 : Int32) [] (.int (0 : Int32))) := by
  refine own_met (plainFor_of_name pn0) ?_
  intro p e s m below meth c s₁ hx hby hml hown hnm hret hlk hZ e0 X0
  have hml : c.maxLocals = 3 := hml
  have N0 := Fr.nil n0
  have K0 := Keep.refl h0 []
  refine own_go (fun _ k => castTop (efc01 m r0) k) ?_
  show own_Fin p.tables e below _ (s₁.setTop (mkF m 0 #[.val (.ref r0), .val (.int (1 : Int32)), .unset] []))
  refine own_go (fun _ k => XS.iloadN X0.here hx rfl (hb hby dc01_0) rfl k) ?_
  show own_Fin p.tables e below _ (s₁.setTop (mkF m 1 #[.val (.ref r0), .val (.int (1 : Int32)), .unset] [(.int (1 : Int32))]))
  refine own_go (fun _ k => XS.aloadN X0.here hx rfl (hb hby dc01_1) rfl rfl k) ?_
  show own_Fin p.tables e below _ (s₁.setTop (mkF m 2 #[.val (.ref r0), .val (.int (1 : Int32)), .unset] [(.ref r0), (.int (1 : Int32))]))
  refine own_go (fun _ k => own_alen X0 hx hZ e0 A_t (g := (mkF m 2 #[.val (.ref r0), .val (.int (1 : Int32)), .unset] [(.ref r0), (.int (1 : Int32))])) rfl (rest := [(.int (1 : Int32))]) rfl (hb hby dc01_2) k) ?_
  show own_Fin p.tables e below _ (s₁.setTop (mkF m 3 #[.val (.ref r0), .val (.int (1 : Int32)), .unset] [(.int (0 : Int32)), (.int (1 : Int32))]))
  refine own_go (fun _ k => XS.icmpYes X0.here hx rfl (pc0 := 3) (pc' := 14) rfl (hb hby dc01_3) rfl (XT.ii_ne_t (by decide)) (by decide) (by decide) k) ?_
  show own_Fin p.tables e below _ (s₁.setTop (mkF m 14 #[.val (.ref r0), .val (.int (1 : Int32)), .unset] []))
  refine own_go (fun _ k => XS.iloadN X0.here hx rfl (hb hby dc01_14) rfl k) ?_
  show own_Fin p.tables e below _ (s₁.setTop (mkF m 15 #[.val (.ref r0), .val (.int (1 : Int32)), .unset] [(.int (1 : Int32))]))
  obtain ⟨T1, h1, k1, X1, e1, E1, A1, st1⟩ := newP X0 hx hZ (hw _ (List.mem_of_getElem? (i := 19) rfl)) e0 (g := (mkF m 15 #[.val (.ref r0), .val (.int (1 : Int32)), .unset] [(.int (1 : Int32))])) rfl (hb hby dc01_15) rfl (by decide) (cap := 1) (by decide) (by decide) (by decide) (by decide)
  obtain ⟨a1, g1⟩ : ∃ z, z = h0.size := ⟨_, rfl⟩
  rw [← g1] at A1 st1
  have q1 : h0.size ≤ a1 := Nat.le_trans K0.1 (Nat.le_of_eq g1.symm)
  have z1 : n0 ≤ a1 := Nat.le_trans Z0 q1
  have ne_r0_a1 : r0 ≠ a1 := fun q => absurd (q ▸ A_t.lt) (by rw [g1]; exact Nat.lt_irrefl _)
  have Vr0_1 := A_t.ext E1
  have K1 := K0.ext E1
  have Va1 : Arv Z h1 a1 k1 .byte (1 : Int32) [(.int (0 : Int32))] (.int (0 : Int32)) := (Arv.new A1 (by decide)).pad (pad_rep [] (.int (0 : Int32)) 1)
  refine own_go st1 ?_
  show own_Fin p.tables e below _ (T1.setTop (mkF m 17 #[.val (.ref r0), .val (.int (1 : Int32)), .unset] [(.ref a1)]))
  refine own_go (fun _ k => XS.astoreN X1.here hx rfl (hb hby dc01_17) rfl rfl (l' := #[.val (.ref r0), .val (.int (1 : Int32)), .val (.ref a1)]) rfl k) ?_
  show own_Fin p.tables e below _ (T1.setTop (mkF m 18 #[.val (.ref r0), .val (.int (1 : Int32)), .val (.ref a1)] []))
  refine own_go (fun _ k => XS.aloadN X1.here hx rfl (hb hby dc01_18) rfl rfl k) ?_
  show own_Fin p.tables e below _ (T1.setTop (mkF m 19 #[.val (.ref r0), .val (.int (1 : Int32)), .val (.ref a1)] [(.ref r0)]))
  refine own_go (fun _ k => XT.iconstV X1.here hx rfl (0 : Int32) (hb hby dc01_19) (by decide) k) ?_
  show own_Fin p.tables e below _ (T1.setTop (mkF m 20 #[.val (.ref r0), .val (.int (1 : Int32)), .val (.ref a1)] [(.int (0 : Int32)), (.ref r0)]))
  refine own_go (fun _ k => XS.aloadN X1.here hx rfl (hb hby dc01_20) rfl rfl k) ?_
  show own_Fin p.tables e below _ (T1.setTop (mkF m 21 #[.val (.ref r0), .val (.int (1 : Int32)), .val (.ref a1)] [(.ref a1), (.int (0 : Int32)), (.ref r0)]))
  refine own_go (fun _ k => XT.iconstV X1.here hx rfl (0 : Int32) (hb hby dc01_21) (by decide) k) ?_
  show own_Fin p.tables e below _ (T1.setTop (mkF m 22 #[.val (.ref r0), .val (.int (1 : Int32)), .val (.ref a1)] [(.int (0 : Int32)), (.ref a1), (.int (0 : Int32)), (.ref r0)]))
  refine own_go (fun _ k => XS.aloadN X1.here hx rfl (hb hby dc01_22) rfl rfl k) ?_
  show own_Fin p.tables e below _ (T1.setTop (mkF m 23 #[.val (.ref r0), .val (.int (1 : Int32)), .val (.ref a1)] [(.ref r0), (.int (0 : Int32)), (.ref a1), (.int (0 : Int32)), (.ref r0)]))
  refine own_go (fun _ k => own_alen X1 hx hZ e1 Vr0_1 (g := (mkF m 23 #[.val (.ref r0), .val (.int (1 : Int32)), .val (.ref a1)] [(.ref r0), (.int (0 : Int32)), (.ref a1), (.int (0 : Int32)), (.ref r0)])) rfl (rest := [(.int (0 : Int32)), (.ref a1), (.int (0 : Int32)), (.ref r0)]) rfl (hb hby dc01_23) k) ?_
  show own_Fin p.tables e below _ (T1.setTop (mkF m 24 #[.val (.ref r0), .val (.int (1 : Int32)), .val (.ref a1)] [(.int (0 : Int32)), (.int (0 : Int32)), (.ref a1), (.int (0 : Int32)), (.ref r0)]))
  refine own_go (fun _ k => XS.iloadN X1.here hx rfl (hb hby dc01_24) rfl k) ?_
  show own_Fin p.tables e below _ (T1.setTop (mkF m 25 #[.val (.ref r0), .val (.int (1 : Int32)), .val (.ref a1)] [(.int (1 : Int32)), (.int (0 : Int32)), (.int (0 : Int32)), (.ref a1), (.int (0 : Int32)), (.ref r0)]))
  obtain ⟨_, T2, L2, X2, ⟨rfl, M2, e2⟩, st2⟩ := own_callS X1 hx hZ hown (hw _ (List.mem_of_getElem? (i := 64) rfl)) (hw _ (List.mem_of_getElem? (i := 65) rfl)) (hw _ (List.mem_of_getElem? (i := 55) rfl)) (hw _ (List.mem_of_getElem? (i := 66) rfl)) (by decide) (W := 4) (rm3 l Z a0 hw [] (0 : Int32) (1 : Int32) h1 n0 (Nat.le_trans Z0 K1.1) ) (by decide) (by decide) e1 (g := (mkF m 25 #[.val (.ref r0), .val (.int (1 : Int32)), .val (.ref a1)] [(.int (1 : Int32)), (.int (0 : Int32)), (.int (0 : Int32)), (.ref a1), (.int (0 : Int32)), (.ref r0)])) rfl (by rw [hml]; rfl) (argsL := [(.int (0 : Int32)), (.int (1 : Int32))]) (rest := [(.int (0 : Int32)), (.ref a1), (.int (0 : Int32)), (.ref r0)]) rfl (lenOf pd1 rfl) rfl (by show 2 * 0 + _ ≤ _; exact Nat.le_of_eq rfl) (hb hby dc01_25) (by decide) (by decide)
  have N2 := Fr.app N0 M2
  refine own_go st2 ?_
  show own_Fin p.tables e below _ (T2.setTop (mkF m 28 #[.val (.ref r0), .val (.int (1 : Int32)), .val (.ref a1)] [(.int (f3 (0 : Int32) (1 : Int32))), (.int (0 : Int32)), (.ref a1), (.int (0 : Int32)), (.ref r0)]))
  rw [show (f3 (0 : Int32) (1 : Int32)) = (0 : Int32) from by decide +kernel]
  show own_Fin p.tables e below _ (T2.setTop (mkF m 28 #[.val (.ref r0), .val (.int (1 : Int32)), .val (.ref a1)] [(.int (0 : Int32)), (.int (0 : Int32)), (.ref a1), (.int (0 : Int32)), (.ref r0)]))
  obtain ⟨T3, h3, L3, X3, e3, N3, KK3, Ga3, st3⟩ := cpA X2 hx hZ hown (hw _ (List.mem_of_getElem? (i := 67) rfl)) (hw _ (List.mem_of_getElem? (i := 70) rfl)) (hw _ (List.mem_of_getElem? (i := 68) rfl)) (hw _ (List.mem_of_getElem? (i := 69) rfl)) e2 Vr0_1 Va1 (Or.inl ⟨rfl, rfl⟩) (sp := (0 : Int32)) (dp := (0 : Int32)) (nn := (0 : Int32)) (by decide) (by decide) (by decide) (by decide) (by decide) (us := []) rfl (Nat.le_of_ble_eq_true rfl) N2 z1 (g := (mkF m 28 #[.val (.ref r0), .val (.int (1 : Int32)), .val (.ref a1)] [(.int (0 : Int32)), (.int (0 : Int32)), (.ref a1), (.int (0 : Int32)), (.ref r0)])) rfl (by rw [hml]; rfl) (rest := []) rfl (hb hby dc01_28) (by decide) (W := 0) (by show 2 * 0 + _ ≤ _; exact Nat.le_of_eq rfl) (by decide)
  have Gb3 : Arv Z h3 a1 k1 .byte (1 : Int32) [(.int (0 : Int32))] (.int (0 : Int32)) := Ga3
  have Vr0_3 := Vr0_1.keep KK3 (ninS ne_r0_a1 nin0)
  have K3 := K1.trans KK3 (allS (Or.inr q1) all0)
  refine own_go st3 ?_
  show own_Fin p.tables e below _ (T3.setTop (mkF m 31 #[.val (.ref r0), .val (.int (1 : Int32)), .val (.ref a1)] []))
  refine own_go (fun _ k => XS.aloadN X3.here hx rfl (hb hby dc01_31) rfl rfl k) ?_
  show own_Fin p.tables e below _ (T3.setTop (mkF m 32 #[.val (.ref r0), .val (.int (1 : Int32)), .val (.ref a1)] [(.ref a1)]))
  refine own_retA X3 hx hlk hret rfl rfl (hb hby dc01_32) ?_ (by decide) (by decide)
  show ∃ b k, _ ∧ _ ∧ Keep h0 T3.heap [] ∧ _ ∧ Arv Z T3.heap _ _ _ _ _ _
  rw [e3]
  exact ⟨a1, k1, rfl, N3, K3, q1, Gb3.pad (fun i => (pad_rep [] (.int (0 : Int32)) 1 i).symm)⟩
theorem dc12_0 : decode jdk_65_method_121_code 0 = .ok (.iload_n 1, 1) := by decide +kernel
theorem dc12_1 : decode jdk_65_method_121_code 1 = .ok (.aload_n 0, 1) := by decide +kernel
theorem dc12_2 : decode jdk_65_method_121_code 2 = .ok (.arraylength, 1) := by decide +kernel
theorem dc12_3 : decode jdk_65_method_121_code 3 = .ok (.if_icmp .ne 11, 3) := by decide +kernel
theorem dc12_14 : decode jdk_65_method_121_code 14 = .ok (.iload_n 1, 1) := by decide +kernel
theorem dc12_15 : decode jdk_65_method_121_code 15 = .ok (.newarray .byte, 2) := by decide +kernel
theorem dc12_17 : decode jdk_65_method_121_code 17 = .ok (.astore_n 2, 1) := by decide +kernel
theorem dc12_18 : decode jdk_65_method_121_code 18 = .ok (.aload_n 0, 1) := by decide +kernel
theorem dc12_19 : decode jdk_65_method_121_code 19 = .ok (.iconst 0, 1) := by decide +kernel
theorem dc12_20 : decode jdk_65_method_121_code 20 = .ok (.aload_n 2, 1) := by decide +kernel
theorem dc12_21 : decode jdk_65_method_121_code 21 = .ok (.iconst 0, 1) := by decide +kernel
theorem dc12_22 : decode jdk_65_method_121_code 22 = .ok (.aload_n 0, 1) := by decide +kernel
theorem dc12_23 : decode jdk_65_method_121_code 23 = .ok (.arraylength, 1) := by decide +kernel
theorem dc12_24 : decode jdk_65_method_121_code 24 = .ok (.iload_n 1, 1) := by decide +kernel
theorem dc12_25 : decode jdk_65_method_121_code 25 = .ok (.invokestatic 304, 3) := by decide +kernel
theorem dc12_28 : decode jdk_65_method_121_code 28 = .ok (.invokestatic 150, 3) := by decide +kernel
theorem dc12_31 : decode jdk_65_method_121_code 31 = .ok (.aload_n 2, 1) := by decide +kernel
theorem dc12_32 : decode jdk_65_method_121_code 32 = .ok (.areturn, 1) := by decide +kernel
theorem efc12 (m : MethodId) (r0 : Addr) : entryFrame m #[(.ref r0), (.int (2 : Int32))] 3 = mkF m 0 #[.val (.ref r0), .val (.int (2 : Int32)), .unset] [] := by first | (simp [entryFrame, mkF, argsToLocals, Value.category]; done) | rfl
set_option maxRecDepth 65536 in
set_option maxHeartbeats 40000000 in
theorem rmc12 (l : Launch) (Z : State) (a0 : Array Value) (hw : ∀ d ∈ tables_1, d.before a0 Z = true) (ws : List Jvm.Cond) (r0 : Addr) (h0 : Heap) (n0 : Nat) (Z0 : n0 ≤ h0.size) (k5 : ClassId) (w0 : Int32) (A_t : Arv Z h0 r0 k5 .byte (1 : Int32) [(.int w0)] (.int (0 : Int32))) :
    own_Met l (⟨"java/util/Arrays", "copyOf", "([BI)[B"⟩ : MethodName) jdk_65_method_121_code 3 (some (.array .byte)) ({ frames := 1, cells := 1, slots := 2, locals := 27 } : Room) ws #[(.ref r0), (.int (2 : Int32))] Z h0 1 2 (fun v h L => ∃ b k, v = some (.ref b) ∧ Fr n0 L ∧ Keep h0 h [] ∧ h0.size ≤ b ∧ Arv Z h b k .byte (2 : Int32) [(.int w0)] (.int (0 : Int32))) := by
  refine own_met (plainFor_of_name pn0) ?_
  intro p e s m below meth c s₁ hx hby hml hown hnm hret hlk hZ e0 X0
  have hml : c.maxLocals = 3 := hml
  have N0 := Fr.nil n0
  have K0 := Keep.refl h0 []
  refine own_go (fun _ k => castTop (efc12 m r0) k) ?_
  show own_Fin p.tables e below _ (s₁.setTop (mkF m 0 #[.val (.ref r0), .val (.int (2 : Int32)), .unset] []))
  refine own_go (fun _ k => XS.iloadN X0.here hx rfl (hb hby dc12_0) rfl k) ?_
  show own_Fin p.tables e below _ (s₁.setTop (mkF m 1 #[.val (.ref r0), .val (.int (2 : Int32)), .unset] [(.int (2 : Int32))]))
  refine own_go (fun _ k => XS.aloadN X0.here hx rfl (hb hby dc12_1) rfl rfl k) ?_
  show own_Fin p.tables e below _ (s₁.setTop (mkF m 2 #[.val (.ref r0), .val (.int (2 : Int32)), .unset] [(.ref r0), (.int (2 : Int32))]))
  refine own_go (fun _ k => own_alen X0 hx hZ e0 A_t (g := (mkF m 2 #[.val (.ref r0), .val (.int (2 : Int32)), .unset] [(.ref r0), (.int (2 : Int32))])) rfl (rest := [(.int (2 : Int32))]) rfl (hb hby dc12_2) k) ?_
  show own_Fin p.tables e below _ (s₁.setTop (mkF m 3 #[.val (.ref r0), .val (.int (2 : Int32)), .unset] [(.int (1 : Int32)), (.int (2 : Int32))]))
  refine own_go (fun _ k => XS.icmpYes X0.here hx rfl (pc0 := 3) (pc' := 14) rfl (hb hby dc12_3) rfl (XT.ii_ne_t (by decide)) (by decide) (by decide) k) ?_
  show own_Fin p.tables e below _ (s₁.setTop (mkF m 14 #[.val (.ref r0), .val (.int (2 : Int32)), .unset] []))
  refine own_go (fun _ k => XS.iloadN X0.here hx rfl (hb hby dc12_14) rfl k) ?_
  show own_Fin p.tables e below _ (s₁.setTop (mkF m 15 #[.val (.ref r0), .val (.int (2 : Int32)), .unset] [(.int (2 : Int32))]))
  obtain ⟨T1, h1, k1, X1, e1, E1, A1, st1⟩ := newP X0 hx hZ (hw _ (List.mem_of_getElem? (i := 19) rfl)) e0 (g := (mkF m 15 #[.val (.ref r0), .val (.int (2 : Int32)), .unset] [(.int (2 : Int32))])) rfl (hb hby dc12_15) rfl (by decide) (cap := 2) (by decide) (by decide) (by decide) (by decide)
  obtain ⟨a1, g1⟩ : ∃ z, z = h0.size := ⟨_, rfl⟩
  rw [← g1] at A1 st1
  have q1 : h0.size ≤ a1 := Nat.le_trans K0.1 (Nat.le_of_eq g1.symm)
  have z1 : n0 ≤ a1 := Nat.le_trans Z0 q1
  have ne_r0_a1 : r0 ≠ a1 := fun q => absurd (q ▸ A_t.lt) (by rw [g1]; exact Nat.lt_irrefl _)
  have Vr0_1 := A_t.ext E1
  have K1 := K0.ext E1
  have Va1 : Arv Z h1 a1 k1 .byte (2 : Int32) [(.int (0 : Int32)), (.int (0 : Int32))] (.int (0 : Int32)) := (Arv.new A1 (by decide)).pad (pad_rep [] (.int (0 : Int32)) 2)
  refine own_go st1 ?_
  show own_Fin p.tables e below _ (T1.setTop (mkF m 17 #[.val (.ref r0), .val (.int (2 : Int32)), .unset] [(.ref a1)]))
  refine own_go (fun _ k => XS.astoreN X1.here hx rfl (hb hby dc12_17) rfl rfl (l' := #[.val (.ref r0), .val (.int (2 : Int32)), .val (.ref a1)]) rfl k) ?_
  show own_Fin p.tables e below _ (T1.setTop (mkF m 18 #[.val (.ref r0), .val (.int (2 : Int32)), .val (.ref a1)] []))
  refine own_go (fun _ k => XS.aloadN X1.here hx rfl (hb hby dc12_18) rfl rfl k) ?_
  show own_Fin p.tables e below _ (T1.setTop (mkF m 19 #[.val (.ref r0), .val (.int (2 : Int32)), .val (.ref a1)] [(.ref r0)]))
  refine own_go (fun _ k => XT.iconstV X1.here hx rfl (0 : Int32) (hb hby dc12_19) (by decide) k) ?_
  show own_Fin p.tables e below _ (T1.setTop (mkF m 20 #[.val (.ref r0), .val (.int (2 : Int32)), .val (.ref a1)] [(.int (0 : Int32)), (.ref r0)]))
  refine own_go (fun _ k => XS.aloadN X1.here hx rfl (hb hby dc12_20) rfl rfl k) ?_
  show own_Fin p.tables e below _ (T1.setTop (mkF m 21 #[.val (.ref r0), .val (.int (2 : Int32)), .val (.ref a1)] [(.ref a1), (.int (0 : Int32)), (.ref r0)]))
  refine own_go (fun _ k => XT.iconstV X1.here hx rfl (0 : Int32) (hb hby dc12_21) (by decide) k) ?_
  show own_Fin p.tables e below _ (T1.setTop (mkF m 22 #[.val (.ref r0), .val (.int (2 : Int32)), .val (.ref a1)] [(.int (0 : Int32)), (.ref a1), (.int (0 : Int32)), (.ref r0)]))
  refine own_go (fun _ k => XS.aloadN X1.here hx rfl (hb hby dc12_22) rfl rfl k) ?_
  show own_Fin p.tables e below _ (T1.setTop (mkF m 23 #[.val (.ref r0), .val (.int (2 : Int32)), .val (.ref a1)] [(.ref r0), (.int (0 : Int32)), (.ref a1), (.int (0 : Int32)), (.ref r0)]))
  refine own_go (fun _ k => own_alen X1 hx hZ e1 Vr0_1 (g := (mkF m 23 #[.val (.ref r0), .val (.int (2 : Int32)), .val (.ref a1)] [(.ref r0), (.int (0 : Int32)), (.ref a1), (.int (0 : Int32)), (.ref r0)])) rfl (rest := [(.int (0 : Int32)), (.ref a1), (.int (0 : Int32)), (.ref r0)]) rfl (hb hby dc12_23) k) ?_
  show own_Fin p.tables e below _ (T1.setTop (mkF m 24 #[.val (.ref r0), .val (.int (2 : Int32)), .val (.ref a1)] [(.int (1 : Int32)), (.int (0 : Int32)), (.ref a1), (.int (0 : Int32)), (.ref r0)]))
  refine own_go (fun _ k => XS.iloadN X1.here hx rfl (hb hby dc12_24) rfl k) ?_
  show own_Fin p.tables e below _ (T1.setTop (mkF m 25 #[.val (.ref r0), .val (.int (2 : Int32)), .val (.ref a1)] [(.int (2 : Int32)), (.int (1 : Int32)), (.int (0 : Int32)), (.ref a1), (.int (0 : Int32)), (.ref r0)]))
  obtain ⟨_, T2, L2, X2, ⟨rfl, M2, e2⟩, st2⟩ := own_callS X1 hx hZ hown (hw _ (List.mem_of_getElem? (i := 64) rfl)) (hw _ (List.mem_of_getElem? (i := 65) rfl)) (hw _ (List.mem_of_getElem? (i := 55) rfl)) (hw _ (List.mem_of_getElem? (i := 66) rfl)) (by decide) (W := 4) (rm3 l Z a0 hw [] (1 : Int32) (2 : Int32) h1 n0 (Nat.le_trans Z0 K1.1) ) (by decide) (by decide) e1 (g := (mkF m 25 #[.val (.ref r0), .val (.int (2 : Int32)), .val (.ref a1)] [(.int (2 : Int32)), (.int (1 : Int32)), (.int (0 : Int32)), (.ref a1), (.int (0 : Int32)), (.ref r0)])) rfl (by rw [hml]; rfl) (argsL := [(.int (1 : Int32)), (.int (2 : Int32))]) (rest := [(.int (0 : Int32)), (.ref a1), (.int (0 : Int32)), (.ref r0)]) rfl (lenOf pd1 rfl) rfl (by show 2 * 0 + _ ≤ _; exact Nat.le_of_eq rfl) (hb hby dc12_25) (by decide) (by decide)
  have N2 := Fr.app N0 M2
  refine own_go st2 ?_
  show own_Fin p.tables e below _ (T2.setTop (mkF m 28 #[.val (.ref r0), .val (.int (2 : Int32)), .val (.ref a1)] [(.int (f3 (1 : Int32) (2 : Int32))), (.int (0 : Int32)), (.ref a1), (.int (0 : Int32)), (.ref r0)]))
  rw [show (f3 (1 : Int32) (2 : Int32)) = (1 : Int32) from by decide +kernel]
  show own_Fin p.tables e below _ (T2.setTop (mkF m 28 #[.val (.ref r0), .val (.int (2 : Int32)), .val (.ref a1)] [(.int (1 : Int32)), (.int (0 : Int32)), (.ref a1), (.int (0 : Int32)), (.ref r0)]))
  obtain ⟨T3, h3, L3, X3, e3, N3, KK3, Ga3, st3⟩ := cpA X2 hx hZ hown (hw _ (List.mem_of_getElem? (i := 67) rfl)) (hw _ (List.mem_of_getElem? (i := 70) rfl)) (hw _ (List.mem_of_getElem? (i := 68) rfl)) (hw _ (List.mem_of_getElem? (i := 69) rfl)) e2 Vr0_1 Va1 (Or.inl ⟨rfl, rfl⟩) (sp := (0 : Int32)) (dp := (0 : Int32)) (nn := (1 : Int32)) (by decide) (by decide) (by decide) (by decide) (by decide) (us := [(.int w0)]) rfl (Nat.le_of_ble_eq_true rfl) N2 z1 (g := (mkF m 28 #[.val (.ref r0), .val (.int (2 : Int32)), .val (.ref a1)] [(.int (1 : Int32)), (.int (0 : Int32)), (.ref a1), (.int (0 : Int32)), (.ref r0)])) rfl (by rw [hml]; rfl) (rest := []) rfl (hb hby dc12_28) (by decide) (W := 0) (by show 2 * 0 + _ ≤ _; exact Nat.le_of_eq rfl) (by decide)
  have Gb3 : Arv Z h3 a1 k1 .byte (2 : Int32) [(.int w0), (.int (0 : Int32))] (.int (0 : Int32)) := Ga3
  have Vr0_3 := Vr0_1.keep KK3 (ninS ne_r0_a1 nin0)
  have K3 := K1.trans KK3 (allS (Or.inr q1) all0)
  refine own_go st3 ?_
  show own_Fin p.tables e below _ (T3.setTop (mkF m 31 #[.val (.ref r0), .val (.int (2 : Int32)), .val (.ref a1)] []))
  refine own_go (fun _ k => XS.aloadN X3.here hx rfl (hb hby dc12_31) rfl rfl k) ?_
  show own_Fin p.tables e below _ (T3.setTop (mkF m 32 #[.val (.ref r0), .val (.int (2 : Int32)), .val (.ref a1)] [(.ref a1)]))
  refine own_retA X3 hx hlk hret rfl rfl (hb hby dc12_32) ?_ (by decide) (by decide)
  show ∃ b k, _ ∧ _ ∧ Keep h0 T3.heap [] ∧ _ ∧ Arv Z T3.heap _ _ _ _ _ _
  rw [e3]
  exact ⟨a1, k1, rfl, N3, K3, q1, Gb3.pad (fun i => (pad_rep [(.int w0)] (.int (0 : Int32)) 1 i).symm)⟩
theorem dc24_0 : decode jdk_65_method_121_code 0 = .ok (.iload_n 1, 1) := by decide +kernel
theorem dc24_1 : decode jdk_65_method_121_code 1 = .ok (.aload_n 0, 1) := by decide +kernel
theorem dc24_2 : decode jdk_65_method_121_code 2 = .ok (.arraylength, 1) := by decide +kernel
theorem dc24_3 : decode jdk_65_method_121_code 3 = .ok (.if_icmp .ne 11, 3) := by decide +kernel
theorem dc24_14 : decode jdk_65_method_121_code 14 = .ok (.iload_n 1, 1) := by decide +kernel
theorem dc24_15 : decode jdk_65_method_121_code 15 = .ok (.newarray .byte, 2) := by decide +kernel
theorem dc24_17 : decode jdk_65_method_121_code 17 = .ok (.astore_n 2, 1) := by decide +kernel
theorem dc24_18 : decode jdk_65_method_121_code 18 = .ok (.aload_n 0, 1) := by decide +kernel
theorem dc24_19 : decode jdk_65_method_121_code 19 = .ok (.iconst 0, 1) := by decide +kernel
theorem dc24_20 : decode jdk_65_method_121_code 20 = .ok (.aload_n 2, 1) := by decide +kernel
theorem dc24_21 : decode jdk_65_method_121_code 21 = .ok (.iconst 0, 1) := by decide +kernel
theorem dc24_22 : decode jdk_65_method_121_code 22 = .ok (.aload_n 0, 1) := by decide +kernel
theorem dc24_23 : decode jdk_65_method_121_code 23 = .ok (.arraylength, 1) := by decide +kernel
theorem dc24_24 : decode jdk_65_method_121_code 24 = .ok (.iload_n 1, 1) := by decide +kernel
theorem dc24_25 : decode jdk_65_method_121_code 25 = .ok (.invokestatic 304, 3) := by decide +kernel
theorem dc24_28 : decode jdk_65_method_121_code 28 = .ok (.invokestatic 150, 3) := by decide +kernel
theorem dc24_31 : decode jdk_65_method_121_code 31 = .ok (.aload_n 2, 1) := by decide +kernel
theorem dc24_32 : decode jdk_65_method_121_code 32 = .ok (.areturn, 1) := by decide +kernel
theorem efc24 (m : MethodId) (r0 : Addr) : entryFrame m #[(.ref r0), (.int (4 : Int32))] 3 = mkF m 0 #[.val (.ref r0), .val (.int (4 : Int32)), .unset] [] := by first | (simp [entryFrame, mkF, argsToLocals, Value.category]; done) | rfl
set_option maxRecDepth 65536 in
set_option maxHeartbeats 40000000 in
theorem rmc24 (l : Launch) (Z : State) (a0 : Array Value) (hw : ∀ d ∈ tables_1, d.before a0 Z = true) (ws : List Jvm.Cond) (r0 : Addr) (h0 : Heap) (n0 : Nat) (Z0 : n0 ≤ h0.size) (k5 : ClassId) (w0 : Int32) (w1 : Int32) (A_t : Arv Z h0 r0 k5 .byte (2 : Int32) [(.int w0), (.int w1)] (.int (0 : Int32))) :
    own_Met l (⟨"java/util/Arrays", "copyOf", "([BI)[B"⟩ : MethodName) jdk_65_method_121_code 3 (some (.array .byte)) ({ frames := 1, cells := 1, slots := 4, locals := 27 } : Room) ws #[(.ref r0), (.int (4 : Int32))] Z h0 1 4 (fun v h L => ∃ b k, v = some (.ref b) ∧ Fr n0 L ∧ Keep h0 h [] ∧ h0.size ≤ b ∧ Arv Z h b k .byte (4 : Int32) [(.int w0), (.int w1)] (.int (0 : Int32))) := by
  refine own_met (plainFor_of_name pn0) ?_
  intro p e s m below meth c s₁ hx hby hml hown hnm hret hlk hZ e0 X0
  have hml : c.maxLocals = 3 := hml
  have N0 := Fr.nil n0
  have K0 := Keep.refl h0 []
  refine own_go (fun _ k => castTop (efc24 m r0) k) ?_
  show own_Fin p.tables e below _ (s₁.setTop (mkF m 0 #[.val (.ref r0), .val (.int (4 : Int32)), .unset] []))
  refine own_go (fun _ k => XS.iloadN X0.here hx rfl (hb hby dc24_0) rfl k) ?_
  show own_Fin p.tables e below _ (s₁.setTop (mkF m 1 #[.val (.ref r0), .val (.int (4 : Int32)), .unset] [(.int (4 : Int32))]))
  refine own_go (fun _ k => XS.aloadN X0.here hx rfl (hb hby dc24_1) rfl rfl k) ?_
  show own_Fin p.tables e below _ (s₁.setTop (mkF m 2 #[.val (.ref r0), .val (.int (4 : Int32)), .unset] [(.ref r0), (.int (4 : Int32))]))
  refine own_go (fun _ k => own_alen X0 hx hZ e0 A_t (g := (mkF m 2 #[.val (.ref r0), .val (.int (4 : Int32)), .unset] [(.ref r0), (.int (4 : Int32))])) rfl (rest := [(.int (4 : Int32))]) rfl (hb hby dc24_2) k) ?_
  show own_Fin p.tables e below _ (s₁.setTop (mkF m 3 #[.val (.ref r0), .val (.int (4 : Int32)), .unset] [(.int (2 : Int32)), (.int (4 : Int32))]))
  refine own_go (fun _ k => XS.icmpYes X0.here hx rfl (pc0 := 3) (pc' := 14) rfl (hb hby dc24_3) rfl (XT.ii_ne_t (by decide)) (by decide) (by decide) k) ?_
  show own_Fin p.tables e below _ (s₁.setTop (mkF m 14 #[.val (.ref r0), .val (.int (4 : Int32)), .unset] []))
  refine own_go (fun _ k => XS.iloadN X0.here hx rfl (hb hby dc24_14) rfl k) ?_
  show own_Fin p.tables e below _ (s₁.setTop (mkF m 15 #[.val (.ref r0), .val (.int (4 : Int32)), .unset] [(.int (4 : Int32))]))
  obtain ⟨T1, h1, k1, X1, e1, E1, A1, st1⟩ := newP X0 hx hZ (hw _ (List.mem_of_getElem? (i := 19) rfl)) e0 (g := (mkF m 15 #[.val (.ref r0), .val (.int (4 : Int32)), .unset] [(.int (4 : Int32))])) rfl (hb hby dc24_15) rfl (by decide) (cap := 4) (by decide) (by decide) (by decide) (by decide)
  obtain ⟨a1, g1⟩ : ∃ z, z = h0.size := ⟨_, rfl⟩
  rw [← g1] at A1 st1
  have q1 : h0.size ≤ a1 := Nat.le_trans K0.1 (Nat.le_of_eq g1.symm)
  have z1 : n0 ≤ a1 := Nat.le_trans Z0 q1
  have ne_r0_a1 : r0 ≠ a1 := fun q => absurd (q ▸ A_t.lt) (by rw [g1]; exact Nat.lt_irrefl _)
  have Vr0_1 := A_t.ext E1
  have K1 := K0.ext E1
  have Va1 : Arv Z h1 a1 k1 .byte (4 : Int32) [(.int (0 : Int32)), (.int (0 : Int32)), (.int (0 : Int32)), (.int (0 : Int32))] (.int (0 : Int32)) := (Arv.new A1 (by decide)).pad (pad_rep [] (.int (0 : Int32)) 4)
  refine own_go st1 ?_
  show own_Fin p.tables e below _ (T1.setTop (mkF m 17 #[.val (.ref r0), .val (.int (4 : Int32)), .unset] [(.ref a1)]))
  refine own_go (fun _ k => XS.astoreN X1.here hx rfl (hb hby dc24_17) rfl rfl (l' := #[.val (.ref r0), .val (.int (4 : Int32)), .val (.ref a1)]) rfl k) ?_
  show own_Fin p.tables e below _ (T1.setTop (mkF m 18 #[.val (.ref r0), .val (.int (4 : Int32)), .val (.ref a1)] []))
  refine own_go (fun _ k => XS.aloadN X1.here hx rfl (hb hby dc24_18) rfl rfl k) ?_
  show own_Fin p.tables e below _ (T1.setTop (mkF m 19 #[.val (.ref r0), .val (.int (4 : Int32)), .val (.ref a1)] [(.ref r0)]))
  refine own_go (fun _ k => XT.iconstV X1.here hx rfl (0 : Int32) (hb hby dc24_19) (by decide) k) ?_
  show own_Fin p.tables e below _ (T1.setTop (mkF m 20 #[.val (.ref r0), .val (.int (4 : Int32)), .val (.ref a1)] [(.int (0 : Int32)), (.ref r0)]))
  refine own_go (fun _ k => XS.aloadN X1.here hx rfl (hb hby dc24_20) rfl rfl k) ?_
  show own_Fin p.tables e below _ (T1.setTop (mkF m 21 #[.val (.ref r0), .val (.int (4 : Int32)), .val (.ref a1)] [(.ref a1), (.int (0 : Int32)), (.ref r0)]))
  refine own_go (fun _ k => XT.iconstV X1.here hx rfl (0 : Int32) (hb hby dc24_21) (by decide) k) ?_
  show own_Fin p.tables e below _ (T1.setTop (mkF m 22 #[.val (.ref r0), .val (.int (4 : Int32)), .val (.ref a1)] [(.int (0 : Int32)), (.ref a1), (.int (0 : Int32)), (.ref r0)]))
  refine own_go (fun _ k => XS.aloadN X1.here hx rfl (hb hby dc24_22) rfl rfl k) ?_
  show own_Fin p.tables e below _ (T1.setTop (mkF m 23 #[.val (.ref r0), .val (.int (4 : Int32)), .val (.ref a1)] [(.ref r0), (.int (0 : Int32)), (.ref a1), (.int (0 : Int32)), (.ref r0)]))
  refine own_go (fun _ k => own_alen X1 hx hZ e1 Vr0_1 (g := (mkF m 23 #[.val (.ref r0), .val (.int (4 : Int32)), .val (.ref a1)] [(.ref r0), (.int (0 : Int32)), (.ref a1), (.int (0 : Int32)), (.ref r0)])) rfl (rest := [(.int (0 : Int32)), (.ref a1), (.int (0 : Int32)), (.ref r0)]) rfl (hb hby dc24_23) k) ?_
  show own_Fin p.tables e below _ (T1.setTop (mkF m 24 #[.val (.ref r0), .val (.int (4 : Int32)), .val (.ref a1)] [(.int (2 : Int32)), (.int (0 : Int32)), (.ref a1), (.int (0 : Int32)), (.ref r0)]))
  refine own_go (fun _ k => XS.iloadN X1.here hx rfl (hb hby dc24_24) rfl k) ?_
  show own_Fin p.tables e below _ (T1.setTop (mkF m 25 #[.val (.ref r0), .val (.int (4 : Int32)), .val (.ref a1)] [(.int (4 : Int32)), (.int (2 : Int32)), (.int (0 : Int32)), (.ref a1), (.int (0 : Int32)), (.ref r0)]))
  obtain ⟨_, T2, L2, X2, ⟨rfl, M2, e2⟩, st2⟩ := own_callS X1 hx hZ hown (hw _ (List.mem_of_getElem? (i := 64) rfl)) (hw _ (List.mem_of_getElem? (i := 65) rfl)) (hw _ (List.mem_of_getElem? (i := 55) rfl)) (hw _ (List.mem_of_getElem? (i := 66) rfl)) (by decide) (W := 4) (rm3 l Z a0 hw [] (2 : Int32) (4 : Int32) h1 n0 (Nat.le_trans Z0 K1.1) ) (by decide) (by decide) e1 (g := (mkF m 25 #[.val (.ref r0), .val (.int (4 : Int32)), .val (.ref a1)] [(.int (4 : Int32)), (.int (2 : Int32)), (.int (0 : Int32)), (.ref a1), (.int (0 : Int32)), (.ref r0)])) rfl (by rw [hml]; rfl) (argsL := [(.int (2 : Int32)), (.int (4 : Int32))]) (rest := [(.int (0 : Int32)), (.ref a1), (.int (0 : Int32)), (.ref r0)]) rfl (lenOf pd1 rfl) rfl (by show 2 * 0 + _ ≤ _; exact Nat.le_of_eq rfl) (hb hby dc24_25) (by decide) (by decide)
  have N2 := Fr.app N0 M2
  refine own_go st2 ?_
  show own_Fin p.tables e below _ (T2.setTop (mkF m 28 #[.val (.ref r0), .val (.int (4 : Int32)), .val (.ref a1)] [(.int (f3 (2 : Int32) (4 : Int32))), (.int (0 : Int32)), (.ref a1), (.int (0 : Int32)), (.ref r0)]))
  rw [show (f3 (2 : Int32) (4 : Int32)) = (2 : Int32) from by decide +kernel]
  show own_Fin p.tables e below _ (T2.setTop (mkF m 28 #[.val (.ref r0), .val (.int (4 : Int32)), .val (.ref a1)] [(.int (2 : Int32)), (.int (0 : Int32)), (.ref a1), (.int (0 : Int32)), (.ref r0)]))
  obtain ⟨T3, h3, L3, X3, e3, N3, KK3, Ga3, st3⟩ := cpA X2 hx hZ hown (hw _ (List.mem_of_getElem? (i := 67) rfl)) (hw _ (List.mem_of_getElem? (i := 70) rfl)) (hw _ (List.mem_of_getElem? (i := 68) rfl)) (hw _ (List.mem_of_getElem? (i := 69) rfl)) e2 Vr0_1 Va1 (Or.inl ⟨rfl, rfl⟩) (sp := (0 : Int32)) (dp := (0 : Int32)) (nn := (2 : Int32)) (by decide) (by decide) (by decide) (by decide) (by decide) (us := [(.int w0), (.int w1)]) rfl (Nat.le_of_ble_eq_true rfl) N2 z1 (g := (mkF m 28 #[.val (.ref r0), .val (.int (4 : Int32)), .val (.ref a1)] [(.int (2 : Int32)), (.int (0 : Int32)), (.ref a1), (.int (0 : Int32)), (.ref r0)])) rfl (by rw [hml]; rfl) (rest := []) rfl (hb hby dc24_28) (by decide) (W := 0) (by show 2 * 0 + _ ≤ _; exact Nat.le_of_eq rfl) (by decide)
  have Gb3 : Arv Z h3 a1 k1 .byte (4 : Int32) [(.int w0), (.int w1), (.int (0 : Int32)), (.int (0 : Int32))] (.int (0 : Int32)) := Ga3
  have Vr0_3 := Vr0_1.keep KK3 (ninS ne_r0_a1 nin0)
  have K3 := K1.trans KK3 (allS (Or.inr q1) all0)
  refine own_go st3 ?_
  show own_Fin p.tables e below _ (T3.setTop (mkF m 31 #[.val (.ref r0), .val (.int (4 : Int32)), .val (.ref a1)] []))
  refine own_go (fun _ k => XS.aloadN X3.here hx rfl (hb hby dc24_31) rfl rfl k) ?_
  show own_Fin p.tables e below _ (T3.setTop (mkF m 32 #[.val (.ref r0), .val (.int (4 : Int32)), .val (.ref a1)] [(.ref a1)]))
  refine own_retA X3 hx hlk hret rfl rfl (hb hby dc24_32) ?_ (by decide) (by decide)
  show ∃ b k, _ ∧ _ ∧ Keep h0 T3.heap [] ∧ _ ∧ Arv Z T3.heap _ _ _ _ _ _
  rw [e3]
  exact ⟨a1, k1, rfl, N3, K3, q1, Gb3.pad (fun i => (pad_rep [(.int w0), (.int w1)] (.int (0 : Int32)) 2 i).symm)⟩
theorem dc36_0 : decode jdk_65_method_121_code 0 = .ok (.iload_n 1, 1) := by decide +kernel
theorem dc36_1 : decode jdk_65_method_121_code 1 = .ok (.aload_n 0, 1) := by decide +kernel
theorem dc36_2 : decode jdk_65_method_121_code 2 = .ok (.arraylength, 1) := by decide +kernel
theorem dc36_3 : decode jdk_65_method_121_code 3 = .ok (.if_icmp .ne 11, 3) := by decide +kernel
theorem dc36_14 : decode jdk_65_method_121_code 14 = .ok (.iload_n 1, 1) := by decide +kernel
theorem dc36_15 : decode jdk_65_method_121_code 15 = .ok (.newarray .byte, 2) := by decide +kernel
theorem dc36_17 : decode jdk_65_method_121_code 17 = .ok (.astore_n 2, 1) := by decide +kernel
theorem dc36_18 : decode jdk_65_method_121_code 18 = .ok (.aload_n 0, 1) := by decide +kernel
theorem dc36_19 : decode jdk_65_method_121_code 19 = .ok (.iconst 0, 1) := by decide +kernel
theorem dc36_20 : decode jdk_65_method_121_code 20 = .ok (.aload_n 2, 1) := by decide +kernel
theorem dc36_21 : decode jdk_65_method_121_code 21 = .ok (.iconst 0, 1) := by decide +kernel
theorem dc36_22 : decode jdk_65_method_121_code 22 = .ok (.aload_n 0, 1) := by decide +kernel
theorem dc36_23 : decode jdk_65_method_121_code 23 = .ok (.arraylength, 1) := by decide +kernel
theorem dc36_24 : decode jdk_65_method_121_code 24 = .ok (.iload_n 1, 1) := by decide +kernel
theorem dc36_25 : decode jdk_65_method_121_code 25 = .ok (.invokestatic 304, 3) := by decide +kernel
theorem dc36_28 : decode jdk_65_method_121_code 28 = .ok (.invokestatic 150, 3) := by decide +kernel
theorem dc36_31 : decode jdk_65_method_121_code 31 = .ok (.aload_n 2, 1) := by decide +kernel
theorem dc36_32 : decode jdk_65_method_121_code 32 = .ok (.areturn, 1) := by decide +kernel
theorem efc36 (m : MethodId) (r0 : Addr) : entryFrame m #[(.ref r0), (.int (6 : Int32))] 3 = mkF m 0 #[.val (.ref r0), .val (.int (6 : Int32)), .unset] [] := by first | (simp [entryFrame, mkF, argsToLocals, Value.category]; done) | rfl
set_option maxRecDepth 65536 in
set_option maxHeartbeats 40000000 in
theorem rmc36 (l : Launch) (Z : State) (a0 : Array Value) (hw : ∀ d ∈ tables_1, d.before a0 Z = true) (ws : List Jvm.Cond) (r0 : Addr) (h0 : Heap) (n0 : Nat) (Z0 : n0 ≤ h0.size) (k5 : ClassId) (w0 : Int32) (w1 : Int32) (A_t : Arv Z h0 r0 k5 .byte (3 : Int32) [(.int w0), (.int w1)] (.int (0 : Int32))) :
    own_Met l (⟨"java/util/Arrays", "copyOf", "([BI)[B"⟩ : MethodName) jdk_65_method_121_code 3 (some (.array .byte)) ({ frames := 1, cells := 1, slots := 6, locals := 27 } : Room) ws #[(.ref r0), (.int (6 : Int32))] Z h0 1 6 (fun v h L => ∃ b k, v = some (.ref b) ∧ Fr n0 L ∧ Keep h0 h [] ∧ h0.size ≤ b ∧ Arv Z h b k .byte (6 : Int32) [(.int w0), (.int w1)] (.int (0 : Int32))) := by
  refine own_met (plainFor_of_name pn0) ?_
  intro p e s m below meth c s₁ hx hby hml hown hnm hret hlk hZ e0 X0
  have hml : c.maxLocals = 3 := hml
  have N0 := Fr.nil n0
  have K0 := Keep.refl h0 []
  refine own_go (fun _ k => castTop (efc36 m r0) k) ?_
  show own_Fin p.tables e below _ (s₁.setTop (mkF m 0 #[.val (.ref r0), .val (.int (6 : Int32)), .unset] []))
  refine own_go (fun _ k => XS.iloadN X0.here hx rfl (hb hby dc36_0) rfl k) ?_
  show own_Fin p.tables e below _ (s₁.setTop (mkF m 1 #[.val (.ref r0), .val (.int (6 : Int32)), .unset] [(.int (6 : Int32))]))
  refine own_go (fun _ k => XS.aloadN X0.here hx rfl (hb hby dc36_1) rfl rfl k) ?_
  show own_Fin p.tables e below _ (s₁.setTop (mkF m 2 #[.val (.ref r0), .val (.int (6 : Int32)), .unset] [(.ref r0), (.int (6 : Int32))]))
  refine own_go (fun _ k => own_alen X0 hx hZ e0 A_t (g := (mkF m 2 #[.val (.ref r0), .val (.int (6 : Int32)), .unset] [(.ref r0), (.int (6 : Int32))])) rfl (rest := [(.int (6 : Int32))]) rfl (hb hby dc36_2) k) ?_
  show own_Fin p.tables e below _ (s₁.setTop (mkF m 3 #[.val (.ref r0), .val (.int (6 : Int32)), .unset] [(.int (3 : Int32)), (.int (6 : Int32))]))
  refine own_go (fun _ k => XS.icmpYes X0.here hx rfl (pc0 := 3) (pc' := 14) rfl (hb hby dc36_3) rfl (XT.ii_ne_t (by decide)) (by decide) (by decide) k) ?_
  show own_Fin p.tables e below _ (s₁.setTop (mkF m 14 #[.val (.ref r0), .val (.int (6 : Int32)), .unset] []))
  refine own_go (fun _ k => XS.iloadN X0.here hx rfl (hb hby dc36_14) rfl k) ?_
  show own_Fin p.tables e below _ (s₁.setTop (mkF m 15 #[.val (.ref r0), .val (.int (6 : Int32)), .unset] [(.int (6 : Int32))]))
  obtain ⟨T1, h1, k1, X1, e1, E1, A1, st1⟩ := newP X0 hx hZ (hw _ (List.mem_of_getElem? (i := 19) rfl)) e0 (g := (mkF m 15 #[.val (.ref r0), .val (.int (6 : Int32)), .unset] [(.int (6 : Int32))])) rfl (hb hby dc36_15) rfl (by decide) (cap := 6) (by decide) (by decide) (by decide) (by decide)
  obtain ⟨a1, g1⟩ : ∃ z, z = h0.size := ⟨_, rfl⟩
  rw [← g1] at A1 st1
  have q1 : h0.size ≤ a1 := Nat.le_trans K0.1 (Nat.le_of_eq g1.symm)
  have z1 : n0 ≤ a1 := Nat.le_trans Z0 q1
  have ne_r0_a1 : r0 ≠ a1 := fun q => absurd (q ▸ A_t.lt) (by rw [g1]; exact Nat.lt_irrefl _)
  have Vr0_1 := A_t.ext E1
  have K1 := K0.ext E1
  have Va1 : Arv Z h1 a1 k1 .byte (6 : Int32) [(.int (0 : Int32)), (.int (0 : Int32)), (.int (0 : Int32)), (.int (0 : Int32)), (.int (0 : Int32)), (.int (0 : Int32))] (.int (0 : Int32)) := (Arv.new A1 (by decide)).pad (pad_rep [] (.int (0 : Int32)) 6)
  refine own_go st1 ?_
  show own_Fin p.tables e below _ (T1.setTop (mkF m 17 #[.val (.ref r0), .val (.int (6 : Int32)), .unset] [(.ref a1)]))
  refine own_go (fun _ k => XS.astoreN X1.here hx rfl (hb hby dc36_17) rfl rfl (l' := #[.val (.ref r0), .val (.int (6 : Int32)), .val (.ref a1)]) rfl k) ?_
  show own_Fin p.tables e below _ (T1.setTop (mkF m 18 #[.val (.ref r0), .val (.int (6 : Int32)), .val (.ref a1)] []))
  refine own_go (fun _ k => XS.aloadN X1.here hx rfl (hb hby dc36_18) rfl rfl k) ?_
  show own_Fin p.tables e below _ (T1.setTop (mkF m 19 #[.val (.ref r0), .val (.int (6 : Int32)), .val (.ref a1)] [(.ref r0)]))
  refine own_go (fun _ k => XT.iconstV X1.here hx rfl (0 : Int32) (hb hby dc36_19) (by decide) k) ?_
  show own_Fin p.tables e below _ (T1.setTop (mkF m 20 #[.val (.ref r0), .val (.int (6 : Int32)), .val (.ref a1)] [(.int (0 : Int32)), (.ref r0)]))
  refine own_go (fun _ k => XS.aloadN X1.here hx rfl (hb hby dc36_20) rfl rfl k) ?_
  show own_Fin p.tables e below _ (T1.setTop (mkF m 21 #[.val (.ref r0), .val (.int (6 : Int32)), .val (.ref a1)] [(.ref a1), (.int (0 : Int32)), (.ref r0)]))
  refine own_go (fun _ k => XT.iconstV X1.here hx rfl (0 : Int32) (hb hby dc36_21) (by decide) k) ?_
  show own_Fin p.tables e below _ (T1.setTop (mkF m 22 #[.val (.ref r0), .val (.int (6 : Int32)), .val (.ref a1)] [(.int (0 : Int32)), (.ref a1), (.int (0 : Int32)), (.ref r0)]))
  refine own_go (fun _ k => XS.aloadN X1.here hx rfl (hb hby dc36_22) rfl rfl k) ?_
  show own_Fin p.tables e below _ (T1.setTop (mkF m 23 #[.val (.ref r0), .val (.int (6 : Int32)), .val (.ref a1)] [(.ref r0), (.int (0 : Int32)), (.ref a1), (.int (0 : Int32)), (.ref r0)]))
  refine own_go (fun _ k => own_alen X1 hx hZ e1 Vr0_1 (g := (mkF m 23 #[.val (.ref r0), .val (.int (6 : Int32)), .val (.ref a1)] [(.ref r0), (.int (0 : Int32)), (.ref a1), (.int (0 : Int32)), (.ref r0)])) rfl (rest := [(.int (0 : Int32)), (.ref a1), (.int (0 : Int32)), (.ref r0)]) rfl (hb hby dc36_23) k) ?_
  show own_Fin p.tables e below _ (T1.setTop (mkF m 24 #[.val (.ref r0), .val (.int (6 : Int32)), .val (.ref a1)] [(.int (3 : Int32)), (.int (0 : Int32)), (.ref a1), (.int (0 : Int32)), (.ref r0)]))
  refine own_go (fun _ k => XS.iloadN X1.here hx rfl (hb hby dc36_24) rfl k) ?_
  show own_Fin p.tables e below _ (T1.setTop (mkF m 25 #[.val (.ref r0), .val (.int (6 : Int32)), .val (.ref a1)] [(.int (6 : Int32)), (.int (3 : Int32)), (.int (0 : Int32)), (.ref a1), (.int (0 : Int32)), (.ref r0)]))
  obtain ⟨_, T2, L2, X2, ⟨rfl, M2, e2⟩, st2⟩ := own_callS X1 hx hZ hown (hw _ (List.mem_of_getElem? (i := 64) rfl)) (hw _ (List.mem_of_getElem? (i := 65) rfl)) (hw _ (List.mem_of_getElem? (i := 55) rfl)) (hw _ (List.mem_of_getElem? (i := 66) rfl)) (by decide) (W := 4) (rm3 l Z a0 hw [] (3 : Int32) (6 : Int32) h1 n0 (Nat.le_trans Z0 K1.1) ) (by decide) (by decide) e1 (g := (mkF m 25 #[.val (.ref r0), .val (.int (6 : Int32)), .val (.ref a1)] [(.int (6 : Int32)), (.int (3 : Int32)), (.int (0 : Int32)), (.ref a1), (.int (0 : Int32)), (.ref r0)])) rfl (by rw [hml]; rfl) (argsL := [(.int (3 : Int32)), (.int (6 : Int32))]) (rest := [(.int (0 : Int32)), (.ref a1), (.int (0 : Int32)), (.ref r0)]) rfl (lenOf pd1 rfl) rfl (by show 2 * 0 + _ ≤ _; exact Nat.le_of_eq rfl) (hb hby dc36_25) (by decide) (by decide)
  have N2 := Fr.app N0 M2
  refine own_go st2 ?_
  show own_Fin p.tables e below _ (T2.setTop (mkF m 28 #[.val (.ref r0), .val (.int (6 : Int32)), .val (.ref a1)] [(.int (f3 (3 : Int32) (6 : Int32))), (.int (0 : Int32)), (.ref a1), (.int (0 : Int32)), (.ref r0)]))
  rw [show (f3 (3 : Int32) (6 : Int32)) = (3 : Int32) from by decide +kernel]
  show own_Fin p.tables e below _ (T2.setTop (mkF m 28 #[.val (.ref r0), .val (.int (6 : Int32)), .val (.ref a1)] [(.int (3 : Int32)), (.int (0 : Int32)), (.ref a1), (.int (0 : Int32)), (.ref r0)]))
  obtain ⟨T3, h3, L3, X3, e3, N3, KK3, Ga3, st3⟩ := cpA X2 hx hZ hown (hw _ (List.mem_of_getElem? (i := 67) rfl)) (hw _ (List.mem_of_getElem? (i := 70) rfl)) (hw _ (List.mem_of_getElem? (i := 68) rfl)) (hw _ (List.mem_of_getElem? (i := 69) rfl)) e2 Vr0_1 Va1 (Or.inl ⟨rfl, rfl⟩) (sp := (0 : Int32)) (dp := (0 : Int32)) (nn := (3 : Int32)) (by decide) (by decide) (by decide) (by decide) (by decide) (us := [(.int w0), (.int w1), (.int (0 : Int32))]) rfl (Nat.le_of_ble_eq_true rfl) N2 z1 (g := (mkF m 28 #[.val (.ref r0), .val (.int (6 : Int32)), .val (.ref a1)] [(.int (3 : Int32)), (.int (0 : Int32)), (.ref a1), (.int (0 : Int32)), (.ref r0)])) rfl (by rw [hml]; rfl) (rest := []) rfl (hb hby dc36_28) (by decide) (W := 0) (by show 2 * 0 + _ ≤ _; exact Nat.le_of_eq rfl) (by decide)
  have Gb3 : Arv Z h3 a1 k1 .byte (6 : Int32) [(.int w0), (.int w1), (.int (0 : Int32)), (.int (0 : Int32)), (.int (0 : Int32)), (.int (0 : Int32))] (.int (0 : Int32)) := Ga3
  have Vr0_3 := Vr0_1.keep KK3 (ninS ne_r0_a1 nin0)
  have K3 := K1.trans KK3 (allS (Or.inr q1) all0)
  refine own_go st3 ?_
  show own_Fin p.tables e below _ (T3.setTop (mkF m 31 #[.val (.ref r0), .val (.int (6 : Int32)), .val (.ref a1)] []))
  refine own_go (fun _ k => XS.aloadN X3.here hx rfl (hb hby dc36_31) rfl rfl k) ?_
  show own_Fin p.tables e below _ (T3.setTop (mkF m 32 #[.val (.ref r0), .val (.int (6 : Int32)), .val (.ref a1)] [(.ref a1)]))
  refine own_retA X3 hx hlk hret rfl rfl (hb hby dc36_32) ?_ (by decide) (by decide)
  show ∃ b k, _ ∧ _ ∧ Keep h0 T3.heap [] ∧ _ ∧ Arv Z T3.heap _ _ _ _ _ _
  rw [e3]
  exact ⟨a1, k1, rfl, N3, K3, q1, Gb3.pad (fun i => (pad_rep [(.int w0), (.int w1)] (.int (0 : Int32)) 4 i).symm)⟩
theorem den_0 : decode prog_16_method_23_code 0 = .ok (.aload_n 0, 1) := by decide +kernel
theorem den_1 : decode prog_16_method_23_code 1 = .ok (.getfield 98, 3) := by decide +kernel
theorem den_4 : decode prog_16_method_23_code 4 = .ok (.i2l, 1) := by decide +kernel
theorem den_5 : decode prog_16_method_23_code 5 = .ok (.lload_n 1, 1) := by decide +kernel
theorem den_6 : decode prog_16_method_23_code 6 = .ok (.ladd, 1) := by decide +kernel
theorem den_7 : decode prog_16_method_23_code 7 = .ok (.lstore_n 3, 1) := by decide +kernel
theorem den_8 : decode prog_16_method_23_code 8 = .ok (.lload_n 3, 1) := by decide +kernel
theorem den_9 : decode prog_16_method_23_code 9 = .ok (.aload_n 0, 1) := by decide +kernel
theorem den_10 : decode prog_16_method_23_code 10 = .ok (.getfield 7, 3) := by decide +kernel
theorem den_13 : decode prog_16_method_23_code 13 = .ok (.arraylength, 1) := by decide +kernel
theorem den_14 : decode prog_16_method_23_code 14 = .ok (.i2l, 1) := by decide +kernel
theorem den_15 : decode prog_16_method_23_code 15 = .ok (.lcmp, 1) := by decide +kernel
theorem den_16 : decode prog_16_method_23_code 16 = .ok (.ifCond .gt 4, 3) := by decide +kernel
theorem den_19 : decode prog_16_method_23_code 19 = .ok (.return_, 1) := by decide +kernel
theorem pn1 : plainName "com/example/envelope/envelope/JsonOutput" = true := by first | (simp [plainName, overriddenIn]; done) | decide +kernel
theorem pd3 : parseMethodDescriptor "(J)V" = some ⟨[.long], none⟩ := by decide +kernel
theorem efen (m : MethodId) (r0 : Addr) (j1 : Int64) : entryFrame m #[(.ref r0), (.long j1)] 7 = mkF m 0 #[.val (.ref r0), .val (.long j1), .second, .unset, .unset, .unset, .unset] [] := by first | (simp [entryFrame, mkF, argsToLocals, Value.category]; done) | rfl
set_option maxRecDepth 65536 in
set_option maxHeartbeats 40000000 in
theorem rmen (l : Launch) (Z : State) (a0 : Array Value) (hw : ∀ d ∈ tables_1, d.before a0 Z = true) (ws : List Jvm.Cond) (r0 : Addr) (j1 : Int64) (h0 : Heap) (n0 : Nat) (Z0 : n0 ≤ h0.size) (r5 : Addr) (k5 : ClassId) (i5 : Int32) (z5 : Int32) (vl : List Value) (dv : Value) (E_a : Exa Z h0 r0 "com/example/envelope/envelope/JsonOutput") (F_b : Fld Z h0 r0 "com/example/envelope/envelope/JsonOutput" "bytes" "[B" (.ref r5)) (F_l : Fld Z h0 r0 "com/example/envelope/envelope/JsonOutput" "length" "I" (.int i5)) (A_t : Arv Z h0 r5 k5 .byte z5 vl dv) (hng : ¬ (z5.toInt64) < ((i5.toInt64) + j1)) :
    own_Met l (⟨"com/example/envelope/envelope/JsonOutput", "ensureRoom", "(J)V"⟩ : MethodName) prog_16_method_23_code 7 none ({ frames := 0, cells := 0, slots := 0, locals := 0 } : Room) ws #[(.ref r0), (.long j1)] Z h0 0 0 (own_QP none h0 n0) := by
  refine own_met (plainFor_of_name pn1) ?_
  intro p e s m below meth c s₁ hx hby hml hown hnm hret hlk hZ e0 X0
  have hml : c.maxLocals = 7 := hml
  have N0 := Fr.nil n0
  have K0 := Keep.refl h0 []
  refine own_go (fun _ k => castTop (efen m r0 j1) k) ?_
  show own_Fin p.tables e below _ (s₁.setTop (mkF m 0 #[.val (.ref r0), .val (.long j1), .second, .unset, .unset, .unset, .unset] []))
  refine own_go (fun _ k => XS.aloadN X0.here hx rfl (hb hby den_0) rfl rfl k) ?_
  show own_Fin p.tables e below _ (s₁.setTop (mkF m 1 #[.val (.ref r0), .val (.long j1), .second, .unset, .unset, .unset, .unset] [(.ref r0)]))
  obtain ⟨T1, X1, e1, st1⟩ := getF X0 hx hZ hown (host := "") (Or.inl (hw _ (List.mem_of_getElem? (i := 48) rfl))) Via.refl e0 F_l (g := (mkF m 1 #[.val (.ref r0), .val (.long j1), .second, .unset, .unset, .unset, .unset] [(.ref r0)])) rfl rfl (hb hby den_1)
  refine own_go st1 ?_
  show own_Fin p.tables e below _ (T1.setTop (mkF m 4 #[.val (.ref r0), .val (.long j1), .second, .unset, .unset, .unset, .unset] [(.int i5)]))
  refine own_go (fun _ k => XT.i2l X1.here hx rfl (hb hby den_4) rfl k) ?_
  show own_Fin p.tables e below _ (T1.setTop (mkF m 5 #[.val (.ref r0), .val (.long j1), .second, .unset, .unset, .unset, .unset] [(.long (i5.toInt64))]))
  refine own_go (fun _ k => XT.lloadN X1.here hx rfl (hb hby den_5) rfl k) ?_
  show own_Fin p.tables e below _ (T1.setTop (mkF m 6 #[.val (.ref r0), .val (.long j1), .second, .unset, .unset, .unset, .unset] [(.long j1), (.long (i5.toInt64))]))
  refine own_go (fun _ k => XT.ladd X1.here hx rfl (hb hby den_6) rfl k) ?_
  show own_Fin p.tables e below _ (T1.setTop (mkF m 7 #[.val (.ref r0), .val (.long j1), .second, .unset, .unset, .unset, .unset] [(.long ((i5.toInt64) + j1))]))
  refine own_go (fun _ k => XT.lstoreN X1.here hx rfl (hb hby den_7) rfl (l' := #[.val (.ref r0), .val (.long j1), .second, .val (.long ((i5.toInt64) + j1)), .second, .unset, .unset]) rfl k) ?_
  show own_Fin p.tables e below _ (T1.setTop (mkF m 8 #[.val (.ref r0), .val (.long j1), .second, .val (.long ((i5.toInt64) + j1)), .second, .unset, .unset] []))
  refine own_go (fun _ k => XT.lloadN X1.here hx rfl (hb hby den_8) rfl k) ?_
  show own_Fin p.tables e below _ (T1.setTop (mkF m 9 #[.val (.ref r0), .val (.long j1), .second, .val (.long ((i5.toInt64) + j1)), .second, .unset, .unset] [(.long ((i5.toInt64) + j1))]))
  refine own_go (fun _ k => XS.aloadN X1.here hx rfl (hb hby den_9) rfl rfl k) ?_
  show own_Fin p.tables e below _ (T1.setTop (mkF m 10 #[.val (.ref r0), .val (.long j1), .second, .val (.long ((i5.toInt64) + j1)), .second, .unset, .unset] [(.ref r0), (.long ((i5.toInt64) + j1))]))
  obtain ⟨T2, X2, e2, st2⟩ := getF X1 hx hZ hown (host := "") (Or.inl (hw _ (List.mem_of_getElem? (i := 37) rfl))) Via.refl e1 F_b (g := (mkF m 10 #[.val (.ref r0), .val (.long j1), .second, .val (.long ((i5.toInt64) + j1)), .second, .unset, .unset] [(.ref r0), (.long ((i5.toInt64) + j1))])) rfl rfl (hb hby den_10)
  refine own_go st2 ?_
  show own_Fin p.tables e below _ (T2.setTop (mkF m 13 #[.val (.ref r0), .val (.long j1), .second, .val (.long ((i5.toInt64) + j1)), .second, .unset, .unset] [(.ref r5), (.long ((i5.toInt64) + j1))]))
  refine own_go (fun _ k => own_alen X2 hx hZ e2 A_t (g := (mkF m 13 #[.val (.ref r0), .val (.long j1), .second, .val (.long ((i5.toInt64) + j1)), .second, .unset, .unset] [(.ref r5), (.long ((i5.toInt64) + j1))])) rfl (rest := [(.long ((i5.toInt64) + j1))]) rfl (hb hby den_13) k) ?_
  show own_Fin p.tables e below _ (T2.setTop (mkF m 14 #[.val (.ref r0), .val (.long j1), .second, .val (.long ((i5.toInt64) + j1)), .second, .unset, .unset] [(.int z5), (.long ((i5.toInt64) + j1))]))
  refine own_go (fun _ k => XT.i2l X2.here hx rfl (hb hby den_14) rfl k) ?_
  show own_Fin p.tables e below _ (T2.setTop (mkF m 15 #[.val (.ref r0), .val (.long j1), .second, .val (.long ((i5.toInt64) + j1)), .second, .unset, .unset] [(.long (z5.toInt64)), (.long ((i5.toInt64) + j1))]))
  refine own_go (fun _ k => XT.lcmp X2.here hx rfl (hb hby den_15) rfl k) ?_
  show own_Fin p.tables e below _ (T2.setTop (mkF m 16 #[.val (.ref r0), .val (.long j1), .second, .val (.long ((i5.toInt64) + j1)), .second, .unset, .unset] [(.int (XT.cmpL ((i5.toInt64) + j1) (z5.toInt64)))]))
  refine own_go (fun _ k => XS.ifNo X2.here hx rfl (hb hby den_16) rfl (XT.ll_gt_f hng) k) ?_
  show own_Fin p.tables e below _ (T2.setTop (mkF m 19 #[.val (.ref r0), .val (.long j1), .second, .val (.long ((i5.toInt64) + j1)), .second, .unset, .unset] []))
  refine own_retV X2 hx hlk hret (hb hby den_19) ?_ (by decide) (by decide)
  exact ⟨rfl, N0, e2⟩
theorem dg00_0 : decode prog_16_method_23_code 0 = .ok (.aload_n 0, 1) := by decide +kernel
theorem dg00_1 : decode prog_16_method_23_code 1 = .ok (.getfield 98, 3) := by decide +kernel
theorem dg00_4 : decode prog_16_method_23_code 4 = .ok (.i2l, 1) := by decide +kernel
theorem dg00_5 : decode prog_16_method_23_code 5 = .ok (.lload_n 1, 1) := by decide +kernel
theorem dg00_6 : decode prog_16_method_23_code 6 = .ok (.ladd, 1) := by decide +kernel
theorem dg00_7 : decode prog_16_method_23_code 7 = .ok (.lstore_n 3, 1) := by decide +kernel
theorem dg00_8 : decode prog_16_method_23_code 8 = .ok (.lload_n 3, 1) := by decide +kernel
theorem dg00_9 : decode prog_16_method_23_code 9 = .ok (.aload_n 0, 1) := by decide +kernel
theorem dg00_10 : decode prog_16_method_23_code 10 = .ok (.getfield 7, 3) := by decide +kernel
theorem dg00_13 : decode prog_16_method_23_code 13 = .ok (.arraylength, 1) := by decide +kernel
theorem dg00_14 : decode prog_16_method_23_code 14 = .ok (.i2l, 1) := by decide +kernel
theorem dg00_15 : decode prog_16_method_23_code 15 = .ok (.lcmp, 1) := by decide +kernel
theorem dg00_16 : decode prog_16_method_23_code 16 = .ok (.ifCond .gt 4, 3) := by decide +kernel
theorem dg00_20 : decode prog_16_method_23_code 20 = .ok (.lload_n 3, 1) := by decide +kernel
theorem dg00_21 : decode prog_16_method_23_code 21 = .ok (.ldc2_w 192, 3) := by decide +kernel
theorem dg00_24 : decode prog_16_method_23_code 24 = .ok (.lcmp, 1) := by decide +kernel
theorem dg00_25 : decode prog_16_method_23_code 25 = .ok (.ifCond .le 12, 3) := by decide +kernel
theorem dg00_37 : decode prog_16_method_23_code 37 = .ok (.ldc2_w 124, 3) := by decide +kernel
theorem dg00_40 : decode prog_16_method_23_code 40 = .ok (.aload_n 0, 1) := by decide +kernel
theorem dg00_41 : decode prog_16_method_23_code 41 = .ok (.getfield 7, 3) := by decide +kernel
theorem dg00_44 : decode prog_16_method_23_code 44 = .ok (.arraylength, 1) := by decide +kernel
theorem dg00_45 : decode prog_16_method_23_code 45 = .ok (.i2l, 1) := by decide +kernel
theorem dg00_46 : decode prog_16_method_23_code 46 = .ok (.lmul, 1) := by decide +kernel
theorem dg00_47 : decode prog_16_method_23_code 47 = .ok (.lload_n 3, 1) := by decide +kernel
theorem dg00_48 : decode prog_16_method_23_code 48 = .ok (.lload_n 3, 1) := by decide +kernel
theorem dg00_49 : decode prog_16_method_23_code 49 = .ok (.ldc2_w 198, 3) := by decide +kernel
theorem dg00_52 : decode prog_16_method_23_code 52 = .ok (.ldiv, 1) := by decide +kernel
theorem dg00_53 : decode prog_16_method_23_code 53 = .ok (.ladd, 1) := by decide +kernel
theorem dg00_54 : decode prog_16_method_23_code 54 = .ok (.invokestatic 200, 3) := by decide +kernel
theorem dg00_57 : decode prog_16_method_23_code 57 = .ok (.lstore 5, 2) := by decide +kernel
theorem dg00_59 : decode prog_16_method_23_code 59 = .ok (.aload_n 0, 1) := by decide +kernel
theorem dg00_60 : decode prog_16_method_23_code 60 = .ok (.aload_n 0, 1) := by decide +kernel
theorem dg00_61 : decode prog_16_method_23_code 61 = .ok (.getfield 7, 3) := by decide +kernel
theorem dg00_64 : decode prog_16_method_23_code 64 = .ok (.lload 5, 2) := by decide +kernel
theorem dg00_66 : decode prog_16_method_23_code 66 = .ok (.ldc2_w 192, 3) := by decide +kernel
theorem dg00_69 : decode prog_16_method_23_code 69 = .ok (.invokestatic 204, 3) := by decide +kernel
theorem dg00_72 : decode prog_16_method_23_code 72 = .ok (.l2i, 1) := by decide +kernel
theorem dg00_73 : decode prog_16_method_23_code 73 = .ok (.invokestatic 140, 3) := by decide +kernel
theorem dg00_76 : decode prog_16_method_23_code 76 = .ok (.putfield 7, 3) := by decide +kernel
theorem dg00_79 : decode prog_16_method_23_code 79 = .ok (.return_, 1) := by decide +kernel
theorem efg00 (m : MethodId) (r0 : Addr) : entryFrame m #[(.ref r0), (.long (1 : Int64))] 7 = mkF m 0 #[.val (.ref r0), .val (.long (1 : Int64)), .second, .unset, .unset, .unset, .unset] [] := by first | (simp [entryFrame, mkF, argsToLocals, Value.category]; done) | rfl
set_option maxRecDepth 65536 in
set_option maxHeartbeats 40000000 in
theorem rmg00 (l : Launch) (Z : State) (a0 : Array Value) (hw : ∀ d ∈ tables_1, d.before a0 Z = true) (ws : List Jvm.Cond) (r0 : Addr) (h0 : Heap) (n0 : Nat) (Z0 : n0 ≤ h0.size) (r5 : Addr) (k5 : ClassId) (E_a : Exa Z h0 r0 "com/example/envelope/envelope/JsonOutput") (F_b : Fld Z h0 r0 "com/example/envelope/envelope/JsonOutput" "bytes" "[B" (.ref r5)) (F_l : Fld Z h0 r0 "com/example/envelope/envelope/JsonOutput" "length" "I" (.int (0 : Int32))) (A_t : Arv Z h0 r5 k5 .byte (0 : Int32) [] (.int (0 : Int32))) (g_a : n0 ≤ r0) (g_t : n0 ≤ r5) :
    own_Met l (⟨"com/example/envelope/envelope/JsonOutput", "ensureRoom", "(J)V"⟩ : MethodName) prog_16_method_23_code 7 none ({ frames := 2, cells := 1, slots := 1, locals := 42 } : Room) ws #[(.ref r0), (.long (1 : Int64))] Z h0 1 1 (fun v h L => v = none ∧ Fr n0 L ∧ Keep h0 h [r0] ∧ ∃ b k, Fld Z h r0 "com/example/envelope/envelope/JsonOutput" "bytes" "[B" (.ref b) ∧ Fld Z h r0 "com/example/envelope/envelope/JsonOutput" "length" "I" (.int (0 : Int32)) ∧ h0.size ≤ b ∧ Arv Z h b k .byte (1 : Int32) [] (.int (0 : Int32))) := by
  refine own_met (plainFor_of_name pn1) ?_
  intro p e s m below meth c s₁ hx hby hml hown hnm hret hlk hZ e0 X0
  have hml : c.maxLocals = 7 := hml
  have N0 := Fr.nil n0
  have K0 := Keep.refl h0 [r0]
  refine own_go (fun _ k => castTop (efg00 m r0) k) ?_
  show own_Fin p.tables e below _ (s₁.setTop (mkF m 0 #[.val (.ref r0), .val (.long (1 : Int64)), .second, .unset, .unset, .unset, .unset] []))
  refine own_go (fun _ k => XS.aloadN X0.here hx rfl (hb hby dg00_0) rfl rfl k) ?_
  show own_Fin p.tables e below _ (s₁.setTop (mkF m 1 #[.val (.ref r0), .val (.long (1 : Int64)), .second, .unset, .unset, .unset, .unset] [(.ref r0)]))
  obtain ⟨T1, X1, e1, st1⟩ := getF X0 hx hZ hown (host := "") (Or.inl (hw _ (List.mem_of_getElem? (i := 48) rfl))) Via.refl e0 F_l (g := (mkF m 1 #[.val (.ref r0), .val (.long (1 : Int64)), .second, .unset, .unset, .unset, .unset] [(.ref r0)])) rfl rfl (hb hby dg00_1)
  refine own_go st1 ?_
  show own_Fin p.tables e below _ (T1.setTop (mkF m 4 #[.val (.ref r0), .val (.long (1 : Int64)), .second, .unset, .unset, .unset, .unset] [(.int (0 : Int32))]))
  refine own_go (fun _ k => XT.i2l X1.here hx rfl (hb hby dg00_4) rfl k) ?_
  show own_Fin p.tables e below _ (T1.setTop (mkF m 5 #[.val (.ref r0), .val (.long (1 : Int64)), .second, .unset, .unset, .unset, .unset] [(.long ((0 : Int32).toInt64))]))
  refine own_go (fun _ k => XT.lloadN X1.here hx rfl (hb hby dg00_5) rfl k) ?_
  show own_Fin p.tables e below _ (T1.setTop (mkF m 6 #[.val (.ref r0), .val (.long (1 : Int64)), .second, .unset, .unset, .unset, .unset] [(.long (1 : Int64)), (.long ((0 : Int32).toInt64))]))
  refine own_go (fun _ k => XT.ladd X1.here hx rfl (hb hby dg00_6) rfl k) ?_
  show own_Fin p.tables e below _ (T1.setTop (mkF m 7 #[.val (.ref r0), .val (.long (1 : Int64)), .second, .unset, .unset, .unset, .unset] [(.long (((0 : Int32).toInt64) + (1 : Int64)))]))
  refine own_go (fun _ k => XT.lstoreN X1.here hx rfl (hb hby dg00_7) rfl (l' := #[.val (.ref r0), .val (.long (1 : Int64)), .second, .val (.long (((0 : Int32).toInt64) + (1 : Int64))), .second, .unset, .unset]) rfl k) ?_
  show own_Fin p.tables e below _ (T1.setTop (mkF m 8 #[.val (.ref r0), .val (.long (1 : Int64)), .second, .val (.long (((0 : Int32).toInt64) + (1 : Int64))), .second, .unset, .unset] []))
  refine own_go (fun _ k => XT.lloadN X1.here hx rfl (hb hby dg00_8) rfl k) ?_
  show own_Fin p.tables e below _ (T1.setTop (mkF m 9 #[.val (.ref r0), .val (.long (1 : Int64)), .second, .val (.long (((0 : Int32).toInt64) + (1 : Int64))), .second, .unset, .unset] [(.long (((0 : Int32).toInt64) + (1 : Int64)))]))
  refine own_go (fun _ k => XS.aloadN X1.here hx rfl (hb hby dg00_9) rfl rfl k) ?_
  show own_Fin p.tables e below _ (T1.setTop (mkF m 10 #[.val (.ref r0), .val (.long (1 : Int64)), .second, .val (.long (((0 : Int32).toInt64) + (1 : Int64))), .second, .unset, .unset] [(.ref r0), (.long (((0 : Int32).toInt64) + (1 : Int64)))]))
  obtain ⟨T2, X2, e2, st2⟩ := getF X1 hx hZ hown (host := "") (Or.inl (hw _ (List.mem_of_getElem? (i := 37) rfl))) Via.refl e1 F_b (g := (mkF m 10 #[.val (.ref r0), .val (.long (1 : Int64)), .second, .val (.long (((0 : Int32).toInt64) + (1 : Int64))), .second, .unset, .unset] [(.ref r0), (.long (((0 : Int32).toInt64) + (1 : Int64)))])) rfl rfl (hb hby dg00_10)
  refine own_go st2 ?_
  show own_Fin p.tables e below _ (T2.setTop (mkF m 13 #[.val (.ref r0), .val (.long (1 : Int64)), .second, .val (.long (((0 : Int32).toInt64) + (1 : Int64))), .second, .unset, .unset] [(.ref r5), (.long (((0 : Int32).toInt64) + (1 : Int64)))]))
  refine own_go (fun _ k => own_alen X2 hx hZ e2 A_t (g := (mkF m 13 #[.val (.ref r0), .val (.long (1 : Int64)), .second, .val (.long (((0 : Int32).toInt64) + (1 : Int64))), .second, .unset, .unset] [(.ref r5), (.long (((0 : Int32).toInt64) + (1 : Int64)))])) rfl (rest := [(.long (((0 : Int32).toInt64) + (1 : Int64)))]) rfl (hb hby dg00_13) k) ?_
  show own_Fin p.tables e below _ (T2.setTop (mkF m 14 #[.val (.ref r0), .val (.long (1 : Int64)), .second, .val (.long (((0 : Int32).toInt64) + (1 : Int64))), .second, .unset, .unset] [(.int (0 : Int32)), (.long (((0 : Int32).toInt64) + (1 : Int64)))]))
  refine own_go (fun _ k => XT.i2l X2.here hx rfl (hb hby dg00_14) rfl k) ?_
  show own_Fin p.tables e below _ (T2.setTop (mkF m 15 #[.val (.ref r0), .val (.long (1 : Int64)), .second, .val (.long (((0 : Int32).toInt64) + (1 : Int64))), .second, .unset, .unset] [(.long ((0 : Int32).toInt64)), (.long (((0 : Int32).toInt64) + (1 : Int64)))]))
  refine own_go (fun _ k => XT.lcmp X2.here hx rfl (hb hby dg00_15) rfl k) ?_
  show own_Fin p.tables e below _ (T2.setTop (mkF m 16 #[.val (.ref r0), .val (.long (1 : Int64)), .second, .val (.long (((0 : Int32).toInt64) + (1 : Int64))), .second, .unset, .unset] [(.int (XT.cmpL (((0 : Int32).toInt64) + (1 : Int64)) ((0 : Int32).toInt64)))]))
  refine own_go (fun _ k => XS.ifYes X2.here hx rfl (pc0 := 16) (pc' := 20) rfl (hb hby dg00_16) rfl (XT.ll_gt_t (by decide +kernel)) (by decide) (by decide) k) ?_
  show own_Fin p.tables e below _ (T2.setTop (mkF m 20 #[.val (.ref r0), .val (.long (1 : Int64)), .second, .val (.long (((0 : Int32).toInt64) + (1 : Int64))), .second, .unset, .unset] []))
  refine own_go (fun _ k => XT.lloadN X2.here hx rfl (hb hby dg00_20) rfl k) ?_
  show own_Fin p.tables e below _ (T2.setTop (mkF m 21 #[.val (.ref r0), .val (.long (1 : Int64)), .second, .val (.long (((0 : Int32).toInt64) + (1 : Int64))), .second, .unset, .unset] [(.long (((0 : Int32).toInt64) + (1 : Int64)))]))
  refine own_go (fun _ k => X2.ldc2J hx hown (mvT hZ (hw _ (List.mem_of_getElem? (i := 50) rfl))) rfl (hb hby dg00_21) k) ?_
  show own_Fin p.tables e below _ (T2.setTop (mkF m 24 #[.val (.ref r0), .val (.long (1 : Int64)), .second, .val (.long (((0 : Int32).toInt64) + (1 : Int64))), .second, .unset, .unset] [(.long (2147483639 : Int64)), (.long (((0 : Int32).toInt64) + (1 : Int64)))]))
  refine own_go (fun _ k => XT.lcmp X2.here hx rfl (hb hby dg00_24) rfl k) ?_
  show own_Fin p.tables e below _ (T2.setTop (mkF m 25 #[.val (.ref r0), .val (.long (1 : Int64)), .second, .val (.long (((0 : Int32).toInt64) + (1 : Int64))), .second, .unset, .unset] [(.int (XT.cmpL (((0 : Int32).toInt64) + (1 : Int64)) (2147483639 : Int64)))]))
  refine own_go (fun _ k => XS.ifYes X2.here hx rfl (pc0 := 25) (pc' := 37) rfl (hb hby dg00_25) rfl (XT.ll_le_t (by decide +kernel)) (by decide) (by decide) k) ?_
  show own_Fin p.tables e below _ (T2.setTop (mkF m 37 #[.val (.ref r0), .val (.long (1 : Int64)), .second, .val (.long (((0 : Int32).toInt64) + (1 : Int64))), .second, .unset, .unset] []))
  refine own_go (fun _ k => X2.ldc2J hx hown (mvT hZ (hw _ (List.mem_of_getElem? (i := 51) rfl))) rfl (hb hby dg00_37) k) ?_
  show own_Fin p.tables e below _ (T2.setTop (mkF m 40 #[.val (.ref r0), .val (.long (1 : Int64)), .second, .val (.long (((0 : Int32).toInt64) + (1 : Int64))), .second, .unset, .unset] [(.long (2 : Int64))]))
  refine own_go (fun _ k => XS.aloadN X2.here hx rfl (hb hby dg00_40) rfl rfl k) ?_
  show own_Fin p.tables e below _ (T2.setTop (mkF m 41 #[.val (.ref r0), .val (.long (1 : Int64)), .second, .val (.long (((0 : Int32).toInt64) + (1 : Int64))), .second, .unset, .unset] [(.ref r0), (.long (2 : Int64))]))
  obtain ⟨T3, X3, e3, st3⟩ := getF X2 hx hZ hown (host := "") (Or.inl (hw _ (List.mem_of_getElem? (i := 37) rfl))) Via.refl e2 F_b (g := (mkF m 41 #[.val (.ref r0), .val (.long (1 : Int64)), .second, .val (.long (((0 : Int32).toInt64) + (1 : Int64))), .second, .unset, .unset] [(.ref r0), (.long (2 : Int64))])) rfl rfl (hb hby dg00_41)
  refine own_go st3 ?_
  show own_Fin p.tables e below _ (T3.setTop (mkF m 44 #[.val (.ref r0), .val (.long (1 : Int64)), .second, .val (.long (((0 : Int32).toInt64) + (1 : Int64))), .second, .unset, .unset] [(.ref r5), (.long (2 : Int64))]))
  refine own_go (fun _ k => own_alen X3 hx hZ e3 A_t (g := (mkF m 44 #[.val (.ref r0), .val (.long (1 : Int64)), .second, .val (.long (((0 : Int32).toInt64) + (1 : Int64))), .second, .unset, .unset] [(.ref r5), (.long (2 : Int64))])) rfl (rest := [(.long (2 : Int64))]) rfl (hb hby dg00_44) k) ?_
  show own_Fin p.tables e below _ (T3.setTop (mkF m 45 #[.val (.ref r0), .val (.long (1 : Int64)), .second, .val (.long (((0 : Int32).toInt64) + (1 : Int64))), .second, .unset, .unset] [(.int (0 : Int32)), (.long (2 : Int64))]))
  refine own_go (fun _ k => XT.i2l X3.here hx rfl (hb hby dg00_45) rfl k) ?_
  show own_Fin p.tables e below _ (T3.setTop (mkF m 46 #[.val (.ref r0), .val (.long (1 : Int64)), .second, .val (.long (((0 : Int32).toInt64) + (1 : Int64))), .second, .unset, .unset] [(.long ((0 : Int32).toInt64)), (.long (2 : Int64))]))
  refine own_go (fun _ k => XT.lmul X3.here hx rfl (hb hby dg00_46) rfl k) ?_
  show own_Fin p.tables e below _ (T3.setTop (mkF m 47 #[.val (.ref r0), .val (.long (1 : Int64)), .second, .val (.long (((0 : Int32).toInt64) + (1 : Int64))), .second, .unset, .unset] [(.long ((2 : Int64) * ((0 : Int32).toInt64)))]))
  refine own_go (fun _ k => XT.lloadN X3.here hx rfl (hb hby dg00_47) rfl k) ?_
  show own_Fin p.tables e below _ (T3.setTop (mkF m 48 #[.val (.ref r0), .val (.long (1 : Int64)), .second, .val (.long (((0 : Int32).toInt64) + (1 : Int64))), .second, .unset, .unset] [(.long (((0 : Int32).toInt64) + (1 : Int64))), (.long ((2 : Int64) * ((0 : Int32).toInt64)))]))
  refine own_go (fun _ k => XT.lloadN X3.here hx rfl (hb hby dg00_48) rfl k) ?_
  show own_Fin p.tables e below _ (T3.setTop (mkF m 49 #[.val (.ref r0), .val (.long (1 : Int64)), .second, .val (.long (((0 : Int32).toInt64) + (1 : Int64))), .second, .unset, .unset] [(.long (((0 : Int32).toInt64) + (1 : Int64))), (.long (((0 : Int32).toInt64) + (1 : Int64))), (.long ((2 : Int64) * ((0 : Int32).toInt64)))]))
  refine own_go (fun _ k => X3.ldc2J hx hown (mvT hZ (hw _ (List.mem_of_getElem? (i := 52) rfl))) rfl (hb hby dg00_49) k) ?_
  show own_Fin p.tables e below _ (T3.setTop (mkF m 52 #[.val (.ref r0), .val (.long (1 : Int64)), .second, .val (.long (((0 : Int32).toInt64) + (1 : Int64))), .second, .unset, .unset] [(.long (8 : Int64)), (.long (((0 : Int32).toInt64) + (1 : Int64))), (.long (((0 : Int32).toInt64) + (1 : Int64))), (.long ((2 : Int64) * ((0 : Int32).toInt64)))]))
  refine own_go (fun _ k => XT.ldiv X3.here hx rfl (hb hby dg00_52) rfl (by decide +kernel) k) ?_
  show own_Fin p.tables e below _ (T3.setTop (mkF m 53 #[.val (.ref r0), .val (.long (1 : Int64)), .second, .val (.long (((0 : Int32).toInt64) + (1 : Int64))), .second, .unset, .unset] [(.long ((((0 : Int32).toInt64) + (1 : Int64)) / (8 : Int64))), (.long (((0 : Int32).toInt64) + (1 : Int64))), (.long ((2 : Int64) * ((0 : Int32).toInt64)))]))
  refine own_go (fun _ k => XT.ladd X3.here hx rfl (hb hby dg00_53) rfl k) ?_
  show own_Fin p.tables e below _ (T3.setTop (mkF m 54 #[.val (.ref r0), .val (.long (1 : Int64)), .second, .val (.long (((0 : Int32).toInt64) + (1 : Int64))), .second, .unset, .unset] [(.long ((((0 : Int32).toInt64) + (1 : Int64)) + ((((0 : Int32).toInt64) + (1 : Int64)) / (8 : Int64)))), (.long ((2 : Int64) * ((0 : Int32).toInt64)))]))
  obtain ⟨_, T4, L4, X4, ⟨rfl, M4, e4⟩, st4⟩ := own_callS X3 hx hZ hown (hw _ (List.mem_of_getElem? (i := 53) rfl)) (hw _ (List.mem_of_getElem? (i := 54) rfl)) (hw _ (List.mem_of_getElem? (i := 55) rfl)) (hw _ (List.mem_of_getElem? (i := 56) rfl)) (by decide) (W := 0) (rm1 l Z a0 hw [] ((2 : Int64) * ((0 : Int32).toInt64)) ((((0 : Int32).toInt64) + (1 : Int64)) + ((((0 : Int32).toInt64) + (1 : Int64)) / (8 : Int64))) h0 n0 (Nat.le_trans Z0 K0.1) ) (by decide) (by decide) e3 (g := (mkF m 54 #[.val (.ref r0), .val (.long (1 : Int64)), .second, .val (.long (((0 : Int32).toInt64) + (1 : Int64))), .second, .unset, .unset] [(.long ((((0 : Int32).toInt64) + (1 : Int64)) + ((((0 : Int32).toInt64) + (1 : Int64)) / (8 : Int64)))), (.long ((2 : Int64) * ((0 : Int32).toInt64)))])) rfl (by rw [hml]; rfl) (argsL := [(.long ((2 : Int64) * ((0 : Int32).toInt64))), (.long ((((0 : Int32).toInt64) + (1 : Int64)) + ((((0 : Int32).toInt64) + (1 : Int64)) / (8 : Int64))))]) (rest := []) rfl (lenOf pd0 rfl) rfl (by show 2 * 0 + _ ≤ _; exact Nat.le_of_eq rfl) (hb hby dg00_54) (by decide) (by decide)
  have N4 := Fr.app N0 M4
  refine own_go st4 ?_
  show own_Fin p.tables e below _ (T4.setTop (mkF m 57 #[.val (.ref r0), .val (.long (1 : Int64)), .second, .val (.long (((0 : Int32).toInt64) + (1 : Int64))), .second, .unset, .unset] [(.long (f1 ((2 : Int64) * ((0 : Int32).toInt64)) ((((0 : Int32).toInt64) + (1 : Int64)) + ((((0 : Int32).toInt64) + (1 : Int64)) / (8 : Int64)))))]))
  refine own_go (fun _ k => XT.lstore X4.here hx rfl (hb hby dg00_57) rfl (l' := #[.val (.ref r0), .val (.long (1 : Int64)), .second, .val (.long (((0 : Int32).toInt64) + (1 : Int64))), .second, .val (.long (f1 ((2 : Int64) * ((0 : Int32).toInt64)) ((((0 : Int32).toInt64) + (1 : Int64)) + ((((0 : Int32).toInt64) + (1 : Int64)) / (8 : Int64))))), .second]) rfl k) ?_
  show own_Fin p.tables e below _ (T4.setTop (mkF m 59 #[.val (.ref r0), .val (.long (1 : Int64)), .second, .val (.long (((0 : Int32).toInt64) + (1 : Int64))), .second, .val (.long (f1 ((2 : Int64) * ((0 : Int32).toInt64)) ((((0 : Int32).toInt64) + (1 : Int64)) + ((((0 : Int32).toInt64) + (1 : Int64)) / (8 : Int64))))), .second] []))
  refine own_go (fun _ k => XS.aloadN X4.here hx rfl (hb hby dg00_59) rfl rfl k) ?_
  show own_Fin p.tables e below _ (T4.setTop (mkF m 60 #[.val (.ref r0), .val (.long (1 : Int64)), .second, .val (.long (((0 : Int32).toInt64) + (1 : Int64))), .second, .val (.long (f1 ((2 : Int64) * ((0 : Int32).toInt64)) ((((0 : Int32).toInt64) + (1 : Int64)) + ((((0 : Int32).toInt64) + (1 : Int64)) / (8 : Int64))))), .second] [(.ref r0)]))
  refine own_go (fun _ k => XS.aloadN X4.here hx rfl (hb hby dg00_60) rfl rfl k) ?_
  show own_Fin p.tables e below _ (T4.setTop (mkF m 61 #[.val (.ref r0), .val (.long (1 : Int64)), .second, .val (.long (((0 : Int32).toInt64) + (1 : Int64))), .second, .val (.long (f1 ((2 : Int64) * ((0 : Int32).toInt64)) ((((0 : Int32).toInt64) + (1 : Int64)) + ((((0 : Int32).toInt64) + (1 : Int64)) / (8 : Int64))))), .second] [(.ref r0), (.ref r0)]))
  obtain ⟨T5, X5, e5, st5⟩ := getF X4 hx hZ hown (host := "") (Or.inl (hw _ (List.mem_of_getElem? (i := 37) rfl))) Via.refl e4 F_b (g := (mkF m 61 #[.val (.ref r0), .val (.long (1 : Int64)), .second, .val (.long (((0 : Int32).toInt64) + (1 : Int64))), .second, .val (.long (f1 ((2 : Int64) * ((0 : Int32).toInt64)) ((((0 : Int32).toInt64) + (1 : Int64)) + ((((0 : Int32).toInt64) + (1 : Int64)) / (8 : Int64))))), .second] [(.ref r0), (.ref r0)])) rfl rfl (hb hby dg00_61)
  refine own_go st5 ?_
  show own_Fin p.tables e below _ (T5.setTop (mkF m 64 #[.val (.ref r0), .val (.long (1 : Int64)), .second, .val (.long (((0 : Int32).toInt64) + (1 : Int64))), .second, .val (.long (f1 ((2 : Int64) * ((0 : Int32).toInt64)) ((((0 : Int32).toInt64) + (1 : Int64)) + ((((0 : Int32).toInt64) + (1 : Int64)) / (8 : Int64))))), .second] [(.ref r5), (.ref r0)]))
  refine own_go (fun _ k => XT.lload X5.here hx rfl (hb hby dg00_64) rfl k) ?_
  show own_Fin p.tables e below _ (T5.setTop (mkF m 66 #[.val (.ref r0), .val (.long (1 : Int64)), .second, .val (.long (((0 : Int32).toInt64) + (1 : Int64))), .second, .val (.long (f1 ((2 : Int64) * ((0 : Int32).toInt64)) ((((0 : Int32).toInt64) + (1 : Int64)) + ((((0 : Int32).toInt64) + (1 : Int64)) / (8 : Int64))))), .second] [(.long (f1 ((2 : Int64) * ((0 : Int32).toInt64)) ((((0 : Int32).toInt64) + (1 : Int64)) + ((((0 : Int32).toInt64) + (1 : Int64)) / (8 : Int64))))), (.ref r5), (.ref r0)]))
  refine own_go (fun _ k => X5.ldc2J hx hown (mvT hZ (hw _ (List.mem_of_getElem? (i := 50) rfl))) rfl (hb hby dg00_66) k) ?_
  show own_Fin p.tables e below _ (T5.setTop (mkF m 69 #[.val (.ref r0), .val (.long (1 : Int64)), .second, .val (.long (((0 : Int32).toInt64) + (1 : Int64))), .second, .val (.long (f1 ((2 : Int64) * ((0 : Int32).toInt64)) ((((0 : Int32).toInt64) + (1 : Int64)) + ((((0 : Int32).toInt64) + (1 : Int64)) / (8 : Int64))))), .second] [(.long (2147483639 : Int64)), (.long (f1 ((2 : Int64) * ((0 : Int32).toInt64)) ((((0 : Int32).toInt64) + (1 : Int64)) + ((((0 : Int32).toInt64) + (1 : Int64)) / (8 : Int64))))), (.ref r5), (.ref r0)]))
  obtain ⟨_, T6, L6, X6, ⟨rfl, M6, e6⟩, st6⟩ := own_callS X5 hx hZ hown (hw _ (List.mem_of_getElem? (i := 57) rfl)) (hw _ (List.mem_of_getElem? (i := 58) rfl)) (hw _ (List.mem_of_getElem? (i := 55) rfl)) (hw _ (List.mem_of_getElem? (i := 59) rfl)) (by decide) (W := 2) (rm2 l Z a0 hw [] (f1 ((2 : Int64) * ((0 : Int32).toInt64)) ((((0 : Int32).toInt64) + (1 : Int64)) + ((((0 : Int32).toInt64) + (1 : Int64)) / (8 : Int64)))) (2147483639 : Int64) h0 n0 (Nat.le_trans Z0 K0.1) ) (by decide) (by decide) e5 (g := (mkF m 69 #[.val (.ref r0), .val (.long (1 : Int64)), .second, .val (.long (((0 : Int32).toInt64) + (1 : Int64))), .second, .val (.long (f1 ((2 : Int64) * ((0 : Int32).toInt64)) ((((0 : Int32).toInt64) + (1 : Int64)) + ((((0 : Int32).toInt64) + (1 : Int64)) / (8 : Int64))))), .second] [(.long (2147483639 : Int64)), (.long (f1 ((2 : Int64) * ((0 : Int32).toInt64)) ((((0 : Int32).toInt64) + (1 : Int64)) + ((((0 : Int32).toInt64) + (1 : Int64)) / (8 : Int64))))), (.ref r5), (.ref r0)])) rfl (by rw [hml]; rfl) (argsL := [(.long (f1 ((2 : Int64) * ((0 : Int32).toInt64)) ((((0 : Int32).toInt64) + (1 : Int64)) + ((((0 : Int32).toInt64) + (1 : Int64)) / (8 : Int64))))), (.long (2147483639 : Int64))]) (rest := [(.ref r5), (.ref r0)]) rfl (lenOf pd0 rfl) rfl (by show 2 * 0 + _ ≤ _; exact Nat.le_of_eq rfl) (hb hby dg00_69) (by decide) (by decide)
  have N6 := Fr.app N4 M6
  refine own_go st6 ?_
  show own_Fin p.tables e below _ (T6.setTop (mkF m 72 #[.val (.ref r0), .val (.long (1 : Int64)), .second, .val (.long (((0 : Int32).toInt64) + (1 : Int64))), .second, .val (.long (f1 ((2 : Int64) * ((0 : Int32).toInt64)) ((((0 : Int32).toInt64) + (1 : Int64)) + ((((0 : Int32).toInt64) + (1 : Int64)) / (8 : Int64))))), .second] [(.long (f2 (f1 ((2 : Int64) * ((0 : Int32).toInt64)) ((((0 : Int32).toInt64) + (1 : Int64)) + ((((0 : Int32).toInt64) + (1 : Int64)) / (8 : Int64)))) (2147483639 : Int64))), (.ref r5), (.ref r0)]))
  refine own_go (fun _ k => XT.l2i X6.here hx rfl (hb hby dg00_72) rfl k) ?_
  show own_Fin p.tables e below _ (T6.setTop (mkF m 73 #[.val (.ref r0), .val (.long (1 : Int64)), .second, .val (.long (((0 : Int32).toInt64) + (1 : Int64))), .second, .val (.long (f1 ((2 : Int64) * ((0 : Int32).toInt64)) ((((0 : Int32).toInt64) + (1 : Int64)) + ((((0 : Int32).toInt64) + (1 : Int64)) / (8 : Int64))))), .second] [(.int ((f2 (f1 ((2 : Int64) * ((0 : Int32).toInt64)) ((((0 : Int32).toInt64) + (1 : Int64)) + ((((0 : Int32).toInt64) + (1 : Int64)) / (8 : Int64)))) (2147483639 : Int64)).toInt32)), (.ref r5), (.ref r0)]))
  rw [show ((f2 (f1 ((2 : Int64) * ((0 : Int32).toInt64)) ((((0 : Int32).toInt64) + (1 : Int64)) + ((((0 : Int32).toInt64) + (1 : Int64)) / (8 : Int64)))) (2147483639 : Int64)).toInt32) = (1 : Int32) from by decide +kernel]
  show own_Fin p.tables e below _ (T6.setTop (mkF m 73 #[.val (.ref r0), .val (.long (1 : Int64)), .second, .val (.long (((0 : Int32).toInt64) + (1 : Int64))), .second, .val (.long (f1 ((2 : Int64) * ((0 : Int32).toInt64)) ((((0 : Int32).toInt64) + (1 : Int64)) + ((((0 : Int32).toInt64) + (1 : Int64)) / (8 : Int64))))), .second] [(.int (1 : Int32)), (.ref r5), (.ref r0)]))
  obtain ⟨_, T7, L7, X7, ⟨b7, kb7, rfl, M7, KK7, q7, V7⟩, st7⟩ := own_callS X6 hx hZ hown (hw _ (List.mem_of_getElem? (i := 60) rfl)) (hw _ (List.mem_of_getElem? (i := 61) rfl)) (hw _ (List.mem_of_getElem? (i := 62) rfl)) (hw _ (List.mem_of_getElem? (i := 63) rfl)) (by decide) (W := 1) (rmc01 l Z a0 hw [] r5 h0 n0 (Nat.le_trans Z0 K0.1) k5  A_t) (by decide) (by decide) e6 (g := (mkF m 73 #[.val (.ref r0), .val (.long (1 : Int64)), .second, .val (.long (((0 : Int32).toInt64) + (1 : Int64))), .second, .val (.long (f1 ((2 : Int64) * ((0 : Int32).toInt64)) ((((0 : Int32).toInt64) + (1 : Int64)) + ((((0 : Int32).toInt64) + (1 : Int64)) / (8 : Int64))))), .second] [(.int (1 : Int32)), (.ref r5), (.ref r0)])) rfl (by rw [hml]; rfl) (argsL := [(.ref r5), (.int (1 : Int32))]) (rest := [(.ref r0)]) rfl (lenOf pd2 rfl) rfl (by show 2 * 0 + _ ≤ _; exact Nat.le_of_eq rfl) (hb hby dg00_73) (by decide) (by decide)
  have N7 := Fr.app N6 M7
  have ne_r0_b7 : r0 ≠ b7 := own_lt_ne E_a.lt q7
  have ne_r5_b7 : r5 ≠ b7 := own_lt_ne A_t.lt q7
  have Er0_7 := E_a.keep KK7
  have Fr0_bytes_7 := F_b.keep KK7 nin0
  have Fr0_length_7 := F_l.keep KK7 nin0
  have Vr5_7 := A_t.keep KK7 nin0
  have K7 := K0.trans KK7 all0
  refine own_go st7 ?_
  show own_Fin p.tables e below _ (T7.setTop (mkF m 76 #[.val (.ref r0), .val (.long (1 : Int64)), .second, .val (.long (((0 : Int32).toInt64) + (1 : Int64))), .second, .val (.long (f1 ((2 : Int64) * ((0 : Int32).toInt64)) ((((0 : Int32).toInt64) + (1 : Int64)) + ((((0 : Int32).toInt64) + (1 : Int64)) / (8 : Int64))))), .second] [(.ref b7), (.ref r0)]))
  obtain ⟨T8, h8, X8, e8, W8, st8⟩ := putF X7 hx hZ hown (host := "") (Or.inl (hw _ (List.mem_of_getElem? (i := 37) rfl))) Via.refl rfl Fr0_bytes_7 Er0_7 (Or.inl (hw _ (List.mem_of_getElem? (i := 38) rfl))) (hw _ (List.mem_of_getElem? (i := 31) rfl)) (ty := (.array .byte)) (by decide) rfl rfl (g := (mkF m 76 #[.val (.ref r0), .val (.long (1 : Int64)), .second, .val (.long (((0 : Int32).toInt64) + (1 : Int64))), .second, .val (.long (f1 ((2 : Int64) * ((0 : Int32).toInt64)) ((((0 : Int32).toInt64) + (1 : Int64)) + ((((0 : Int32).toInt64) + (1 : Int64)) / (8 : Int64))))), .second] [(.ref b7), (.ref r0)])) rfl rfl (hb hby dg00_76)
  have K8 := K7.wr W8 (Or.inl (List.mem_of_getElem? (i := 0) rfl))
  have N8 := Fr.snoc X8 N7 g_a
  have Er0_8 := Er0_7.wr W8
  have Fr0_bytes_8 := Fr0_bytes_7.same W8
  have Fr0_length_8 := Fr0_length_7.other W8 (Or.inr (slot_ne (Or.inl (hw _ (List.mem_of_getElem? (i := 49) rfl))) (Or.inl (hw _ (List.mem_of_getElem? (i := 38) rfl))) (by decide) (t := .int) (t' := (.array .byte)) (by decide) (by decide)))
  have Vr5_8 := Vr5_7.other W8 (Ne.symm (Exa.neArv E_a A_t (hw _ (List.mem_of_getElem? (i := 31) rfl))))
  have Vb7_8 := V7.other W8 (Ne.symm ne_r0_b7)
  refine own_go st8 ?_
  show own_Fin p.tables e below _ (T8.setTop (mkF m 79 #[.val (.ref r0), .val (.long (1 : Int64)), .second, .val (.long (((0 : Int32).toInt64) + (1 : Int64))), .second, .val (.long (f1 ((2 : Int64) * ((0 : Int32).toInt64)) ((((0 : Int32).toInt64) + (1 : Int64)) + ((((0 : Int32).toInt64) + (1 : Int64)) / (8 : Int64))))), .second] []))
  refine own_retV X8 hx hlk hret (hb hby dg00_79) ?_ (by decide) (by decide)
  show _ ∧ _ ∧ Keep h0 T8.heap _ ∧ _
  rw [e8]
  exact ⟨rfl, N8, K8, b7, kb7, Fr0_bytes_8, Fr0_length_8, (Nat.le_trans K0.1 q7), Vb7_8⟩
theorem dg11_0 : decode prog_16_method_23_code 0 = .ok (.aload_n 0, 1) := by decide +kernel
theorem dg11_1 : decode prog_16_method_23_code 1 = .ok (.getfield 98, 3) := by decide +kernel
theorem dg11_4 : decode prog_16_method_23_code 4 = .ok (.i2l, 1) := by decide +kernel
theorem dg11_5 : decode prog_16_method_23_code 5 = .ok (.lload_n 1, 1) := by decide +kernel
theorem dg11_6 : decode prog_16_method_23_code 6 = .ok (.ladd, 1) := by decide +kernel
theorem dg11_7 : decode prog_16_method_23_code 7 = .ok (.lstore_n 3, 1) := by decide +kernel
theorem dg11_8 : decode prog_16_method_23_code 8 = .ok (.lload_n 3, 1) := by decide +kernel
theorem dg11_9 : decode prog_16_method_23_code 9 = .ok (.aload_n 0, 1) := by decide +kernel
theorem dg11_10 : decode prog_16_method_23_code 10 = .ok (.getfield 7, 3) := by decide +kernel
theorem dg11_13 : decode prog_16_method_23_code 13 = .ok (.arraylength, 1) := by decide +kernel
theorem dg11_14 : decode prog_16_method_23_code 14 = .ok (.i2l, 1) := by decide +kernel
theorem dg11_15 : decode prog_16_method_23_code 15 = .ok (.lcmp, 1) := by decide +kernel
theorem dg11_16 : decode prog_16_method_23_code 16 = .ok (.ifCond .gt 4, 3) := by decide +kernel
theorem dg11_20 : decode prog_16_method_23_code 20 = .ok (.lload_n 3, 1) := by decide +kernel
theorem dg11_21 : decode prog_16_method_23_code 21 = .ok (.ldc2_w 192, 3) := by decide +kernel
theorem dg11_24 : decode prog_16_method_23_code 24 = .ok (.lcmp, 1) := by decide +kernel
theorem dg11_25 : decode prog_16_method_23_code 25 = .ok (.ifCond .le 12, 3) := by decide +kernel
theorem dg11_37 : decode prog_16_method_23_code 37 = .ok (.ldc2_w 124, 3) := by decide +kernel
theorem dg11_40 : decode prog_16_method_23_code 40 = .ok (.aload_n 0, 1) := by decide +kernel
theorem dg11_41 : decode prog_16_method_23_code 41 = .ok (.getfield 7, 3) := by decide +kernel
theorem dg11_44 : decode prog_16_method_23_code 44 = .ok (.arraylength, 1) := by decide +kernel
theorem dg11_45 : decode prog_16_method_23_code 45 = .ok (.i2l, 1) := by decide +kernel
theorem dg11_46 : decode prog_16_method_23_code 46 = .ok (.lmul, 1) := by decide +kernel
theorem dg11_47 : decode prog_16_method_23_code 47 = .ok (.lload_n 3, 1) := by decide +kernel
theorem dg11_48 : decode prog_16_method_23_code 48 = .ok (.lload_n 3, 1) := by decide +kernel
theorem dg11_49 : decode prog_16_method_23_code 49 = .ok (.ldc2_w 198, 3) := by decide +kernel
theorem dg11_52 : decode prog_16_method_23_code 52 = .ok (.ldiv, 1) := by decide +kernel
theorem dg11_53 : decode prog_16_method_23_code 53 = .ok (.ladd, 1) := by decide +kernel
theorem dg11_54 : decode prog_16_method_23_code 54 = .ok (.invokestatic 200, 3) := by decide +kernel
theorem dg11_57 : decode prog_16_method_23_code 57 = .ok (.lstore 5, 2) := by decide +kernel
theorem dg11_59 : decode prog_16_method_23_code 59 = .ok (.aload_n 0, 1) := by decide +kernel
theorem dg11_60 : decode prog_16_method_23_code 60 = .ok (.aload_n 0, 1) := by decide +kernel
theorem dg11_61 : decode prog_16_method_23_code 61 = .ok (.getfield 7, 3) := by decide +kernel
theorem dg11_64 : decode prog_16_method_23_code 64 = .ok (.lload 5, 2) := by decide +kernel
theorem dg11_66 : decode prog_16_method_23_code 66 = .ok (.ldc2_w 192, 3) := by decide +kernel
theorem dg11_69 : decode prog_16_method_23_code 69 = .ok (.invokestatic 204, 3) := by decide +kernel
theorem dg11_72 : decode prog_16_method_23_code 72 = .ok (.l2i, 1) := by decide +kernel
theorem dg11_73 : decode prog_16_method_23_code 73 = .ok (.invokestatic 140, 3) := by decide +kernel
theorem dg11_76 : decode prog_16_method_23_code 76 = .ok (.putfield 7, 3) := by decide +kernel
theorem dg11_79 : decode prog_16_method_23_code 79 = .ok (.return_, 1) := by decide +kernel
theorem efg11 (m : MethodId) (r0 : Addr) : entryFrame m #[(.ref r0), (.long (1 : Int64))] 7 = mkF m 0 #[.val (.ref r0), .val (.long (1 : Int64)), .second, .unset, .unset, .unset, .unset] [] := by first | (simp [entryFrame, mkF, argsToLocals, Value.category]; done) | rfl
set_option maxRecDepth 65536 in
set_option maxHeartbeats 40000000 in
theorem rmg11 (l : Launch) (Z : State) (a0 : Array Value) (hw : ∀ d ∈ tables_1, d.before a0 Z = true) (ws : List Jvm.Cond) (r0 : Addr) (h0 : Heap) (n0 : Nat) (Z0 : n0 ≤ h0.size) (r5 : Addr) (k5 : ClassId) (w0 : Int32) (E_a : Exa Z h0 r0 "com/example/envelope/envelope/JsonOutput") (F_b : Fld Z h0 r0 "com/example/envelope/envelope/JsonOutput" "bytes" "[B" (.ref r5)) (F_l : Fld Z h0 r0 "com/example/envelope/envelope/JsonOutput" "length" "I" (.int (1 : Int32))) (A_t : Arv Z h0 r5 k5 .byte (1 : Int32) [(.int w0)] (.int (0 : Int32))) (g_a : n0 ≤ r0) (g_t : n0 ≤ r5) :
    own_Met l (⟨"com/example/envelope/envelope/JsonOutput", "ensureRoom", "(J)V"⟩ : MethodName) prog_16_method_23_code 7 none ({ frames := 2, cells := 1, slots := 2, locals := 42 } : Room) ws #[(.ref r0), (.long (1 : Int64))] Z h0 1 2 (fun v h L => v = none ∧ Fr n0 L ∧ Keep h0 h [r0] ∧ ∃ b k, Fld Z h r0 "com/example/envelope/envelope/JsonOutput" "bytes" "[B" (.ref b) ∧ Fld Z h r0 "com/example/envelope/envelope/JsonOutput" "length" "I" (.int (1 : Int32)) ∧ h0.size ≤ b ∧ Arv Z h b k .byte (2 : Int32) [(.int w0)] (.int (0 : Int32))) := by
  refine own_met (plainFor_of_name pn1) ?_
  intro p e s m below meth c s₁ hx hby hml hown hnm hret hlk hZ e0 X0
  have hml : c.maxLocals = 7 := hml
  have N0 := Fr.nil n0
  have K0 := Keep.refl h0 [r0]
  refine own_go (fun _ k => castTop (efg11 m r0) k) ?_
  show own_Fin p.tables e below _ (s₁.setTop (mkF m 0 #[.val (.ref r0), .val (.long (1 : Int64)), .second, .unset, .unset, .unset, .unset] []))
  refine own_go (fun _ k => XS.aloadN X0.here hx rfl (hb hby dg11_0) rfl rfl k) ?_
  show own_Fin p.tables e below _ (s₁.setTop (mkF m 1 #[.val (.ref r0), .val (.long (1 : Int64)), .second, .unset, .unset, .unset, .unset] [(.ref r0)]))
  obtain ⟨T1, X1, e1, st1⟩ := getF X0 hx hZ hown (host := "") (Or.inl (hw _ (List.mem_of_getElem? (i := 48) rfl))) Via.refl e0 F_l (g := (mkF m 1 #[.val (.ref r0), .val (.long (1 : Int64)), .second, .unset, .unset, .unset, .unset] [(.ref r0)])) rfl rfl (hb hby dg11_1)
  refine own_go st1 ?_
  show own_Fin p.tables e below _ (T1.setTop (mkF m 4 #[.val (.ref r0), .val (.long (1 : Int64)), .second, .unset, .unset, .unset, .unset] [(.int (1 : Int32))]))
  refine own_go (fun _ k => XT.i2l X1.here hx rfl (hb hby dg11_4) rfl k) ?_
  show own_Fin p.tables e below _ (T1.setTop (mkF m 5 #[.val (.ref r0), .val (.long (1 : Int64)), .second, .unset, .unset, .unset, .unset] [(.long ((1 : Int32).toInt64))]))
  refine own_go (fun _ k => XT.lloadN X1.here hx rfl (hb hby dg11_5) rfl k) ?_
  show own_Fin p.tables e below _ (T1.setTop (mkF m 6 #[.val (.ref r0), .val (.long (1 : Int64)), .second, .unset, .unset, .unset, .unset] [(.long (1 : Int64)), (.long ((1 : Int32).toInt64))]))
  refine own_go (fun _ k => XT.ladd X1.here hx rfl (hb hby dg11_6) rfl k) ?_
  show own_Fin p.tables e below _ (T1.setTop (mkF m 7 #[.val (.ref r0), .val (.long (1 : Int64)), .second, .unset, .unset, .unset, .unset] [(.long (((1 : Int32).toInt64) + (1 : Int64)))]))
  refine own_go (fun _ k => XT.lstoreN X1.here hx rfl (hb hby dg11_7) rfl (l' := #[.val (.ref r0), .val (.long (1 : Int64)), .second, .val (.long (((1 : Int32).toInt64) + (1 : Int64))), .second, .unset, .unset]) rfl k) ?_
  show own_Fin p.tables e below _ (T1.setTop (mkF m 8 #[.val (.ref r0), .val (.long (1 : Int64)), .second, .val (.long (((1 : Int32).toInt64) + (1 : Int64))), .second, .unset, .unset] []))
  refine own_go (fun _ k => XT.lloadN X1.here hx rfl (hb hby dg11_8) rfl k) ?_
  show own_Fin p.tables e below _ (T1.setTop (mkF m 9 #[.val (.ref r0), .val (.long (1 : Int64)), .second, .val (.long (((1 : Int32).toInt64) + (1 : Int64))), .second, .unset, .unset] [(.long (((1 : Int32).toInt64) + (1 : Int64)))]))
  refine own_go (fun _ k => XS.aloadN X1.here hx rfl (hb hby dg11_9) rfl rfl k) ?_
  show own_Fin p.tables e below _ (T1.setTop (mkF m 10 #[.val (.ref r0), .val (.long (1 : Int64)), .second, .val (.long (((1 : Int32).toInt64) + (1 : Int64))), .second, .unset, .unset] [(.ref r0), (.long (((1 : Int32).toInt64) + (1 : Int64)))]))
  obtain ⟨T2, X2, e2, st2⟩ := getF X1 hx hZ hown (host := "") (Or.inl (hw _ (List.mem_of_getElem? (i := 37) rfl))) Via.refl e1 F_b (g := (mkF m 10 #[.val (.ref r0), .val (.long (1 : Int64)), .second, .val (.long (((1 : Int32).toInt64) + (1 : Int64))), .second, .unset, .unset] [(.ref r0), (.long (((1 : Int32).toInt64) + (1 : Int64)))])) rfl rfl (hb hby dg11_10)
  refine own_go st2 ?_
  show own_Fin p.tables e below _ (T2.setTop (mkF m 13 #[.val (.ref r0), .val (.long (1 : Int64)), .second, .val (.long (((1 : Int32).toInt64) + (1 : Int64))), .second, .unset, .unset] [(.ref r5), (.long (((1 : Int32).toInt64) + (1 : Int64)))]))
  refine own_go (fun _ k => own_alen X2 hx hZ e2 A_t (g := (mkF m 13 #[.val (.ref r0), .val (.long (1 : Int64)), .second, .val (.long (((1 : Int32).toInt64) + (1 : Int64))), .second, .unset, .unset] [(.ref r5), (.long (((1 : Int32).toInt64) + (1 : Int64)))])) rfl (rest := [(.long (((1 : Int32).toInt64) + (1 : Int64)))]) rfl (hb hby dg11_13) k) ?_
  show own_Fin p.tables e below _ (T2.setTop (mkF m 14 #[.val (.ref r0), .val (.long (1 : Int64)), .second, .val (.long (((1 : Int32).toInt64) + (1 : Int64))), .second, .unset, .unset] [(.int (1 : Int32)), (.long (((1 : Int32).toInt64) + (1 : Int64)))]))
  refine own_go (fun _ k => XT.i2l X2.here hx rfl (hb hby dg11_14) rfl k) ?_
  show own_Fin p.tables e below _ (T2.setTop (mkF m 15 #[.val (.ref r0), .val (.long (1 : Int64)), .second, .val (.long (((1 : Int32).toInt64) + (1 : Int64))), .second, .unset, .unset] [(.long ((1 : Int32).toInt64)), (.long (((1 : Int32).toInt64) + (1 : Int64)))]))
  refine own_go (fun _ k => XT.lcmp X2.here hx rfl (hb hby dg11_15) rfl k) ?_
  show own_Fin p.tables e below _ (T2.setTop (mkF m 16 #[.val (.ref r0), .val (.long (1 : Int64)), .second, .val (.long (((1 : Int32).toInt64) + (1 : Int64))), .second, .unset, .unset] [(.int (XT.cmpL (((1 : Int32).toInt64) + (1 : Int64)) ((1 : Int32).toInt64)))]))
  refine own_go (fun _ k => XS.ifYes X2.here hx rfl (pc0 := 16) (pc' := 20) rfl (hb hby dg11_16) rfl (XT.ll_gt_t (by decide +kernel)) (by decide) (by decide) k) ?_
  show own_Fin p.tables e below _ (T2.setTop (mkF m 20 #[.val (.ref r0), .val (.long (1 : Int64)), .second, .val (.long (((1 : Int32).toInt64) + (1 : Int64))), .second, .unset, .unset] []))
  refine own_go (fun _ k => XT.lloadN X2.here hx rfl (hb hby dg11_20) rfl k) ?_
  show own_Fin p.tables e below _ (T2.setTop (mkF m 21 #[.val (.ref r0), .val (.long (1 : Int64)), .second, .val (.long (((1 : Int32).toInt64) + (1 : Int64))), .second, .unset, .unset] [(.long (((1 : Int32).toInt64) + (1 : Int64)))]))
  refine own_go (fun _ k => X2.ldc2J hx hown (mvT hZ (hw _ (List.mem_of_getElem? (i := 50) rfl))) rfl (hb hby dg11_21) k) ?_
  show own_Fin p.tables e below _ (T2.setTop (mkF m 24 #[.val (.ref r0), .val (.long (1 : Int64)), .second, .val (.long (((1 : Int32).toInt64) + (1 : Int64))), .second, .unset, .unset] [(.long (2147483639 : Int64)), (.long (((1 : Int32).toInt64) + (1 : Int64)))]))
  refine own_go (fun _ k => XT.lcmp X2.here hx rfl (hb hby dg11_24) rfl k) ?_
  show own_Fin p.tables e below _ (T2.setTop (mkF m 25 #[.val (.ref r0), .val (.long (1 : Int64)), .second, .val (.long (((1 : Int32).toInt64) + (1 : Int64))), .second, .unset, .unset] [(.int (XT.cmpL (((1 : Int32).toInt64) + (1 : Int64)) (2147483639 : Int64)))]))
  refine own_go (fun _ k => XS.ifYes X2.here hx rfl (pc0 := 25) (pc' := 37) rfl (hb hby dg11_25) rfl (XT.ll_le_t (by decide +kernel)) (by decide) (by decide) k) ?_
  show own_Fin p.tables e below _ (T2.setTop (mkF m 37 #[.val (.ref r0), .val (.long (1 : Int64)), .second, .val (.long (((1 : Int32).toInt64) + (1 : Int64))), .second, .unset, .unset] []))
  refine own_go (fun _ k => X2.ldc2J hx hown (mvT hZ (hw _ (List.mem_of_getElem? (i := 51) rfl))) rfl (hb hby dg11_37) k) ?_
  show own_Fin p.tables e below _ (T2.setTop (mkF m 40 #[.val (.ref r0), .val (.long (1 : Int64)), .second, .val (.long (((1 : Int32).toInt64) + (1 : Int64))), .second, .unset, .unset] [(.long (2 : Int64))]))
  refine own_go (fun _ k => XS.aloadN X2.here hx rfl (hb hby dg11_40) rfl rfl k) ?_
  show own_Fin p.tables e below _ (T2.setTop (mkF m 41 #[.val (.ref r0), .val (.long (1 : Int64)), .second, .val (.long (((1 : Int32).toInt64) + (1 : Int64))), .second, .unset, .unset] [(.ref r0), (.long (2 : Int64))]))
  obtain ⟨T3, X3, e3, st3⟩ := getF X2 hx hZ hown (host := "") (Or.inl (hw _ (List.mem_of_getElem? (i := 37) rfl))) Via.refl e2 F_b (g := (mkF m 41 #[.val (.ref r0), .val (.long (1 : Int64)), .second, .val (.long (((1 : Int32).toInt64) + (1 : Int64))), .second, .unset, .unset] [(.ref r0), (.long (2 : Int64))])) rfl rfl (hb hby dg11_41)
  refine own_go st3 ?_
  show own_Fin p.tables e below _ (T3.setTop (mkF m 44 #[.val (.ref r0), .val (.long (1 : Int64)), .second, .val (.long (((1 : Int32).toInt64) + (1 : Int64))), .second, .unset, .unset] [(.ref r5), (.long (2 : Int64))]))
  refine own_go (fun _ k => own_alen X3 hx hZ e3 A_t (g := (mkF m 44 #[.val (.ref r0), .val (.long (1 : Int64)), .second, .val (.long (((1 : Int32).toInt64) + (1 : Int64))), .second, .unset, .unset] [(.ref r5), (.long (2 : Int64))])) rfl (rest := [(.long (2 : Int64))]) rfl (hb hby dg11_44) k) ?_
  show own_Fin p.tables e below _ (T3.setTop (mkF m 45 #[.val (.ref r0), .val (.long (1 : Int64)), .second, .val (.long (((1 : Int32).toInt64) + (1 : Int64))), .second, .unset, .unset] [(.int (1 : Int32)), (.long (2 : Int64))]))
  refine own_go (fun _ k => XT.i2l X3.here hx rfl (hb hby dg11_45) rfl k) ?_
  show own_Fin p.tables e below _ (T3.setTop (mkF m 46 #[.val (.ref r0), .val (.long (1 : Int64)), .second, .val (.long (((1 : Int32).toInt64) + (1 : Int64))), .second, .unset, .unset] [(.long ((1 : Int32).toInt64)), (.long (2 : Int64))]))
  refine own_go (fun _ k => XT.lmul X3.here hx rfl (hb hby dg11_46) rfl k) ?_
  show own_Fin p.tables e below _ (T3.setTop (mkF m 47 #[.val (.ref r0), .val (.long (1 : Int64)), .second, .val (.long (((1 : Int32).toInt64) + (1 : Int64))), .second, .unset, .unset] [(.long ((2 : Int64) * ((1 : Int32).toInt64)))]))
  refine own_go (fun _ k => XT.lloadN X3.here hx rfl (hb hby dg11_47) rfl k) ?_
  show own_Fin p.tables e below _ (T3.setTop (mkF m 48 #[.val (.ref r0), .val (.long (1 : Int64)), .second, .val (.long (((1 : Int32).toInt64) + (1 : Int64))), .second, .unset, .unset] [(.long (((1 : Int32).toInt64) + (1 : Int64))), (.long ((2 : Int64) * ((1 : Int32).toInt64)))]))
  refine own_go (fun _ k => XT.lloadN X3.here hx rfl (hb hby dg11_48) rfl k) ?_
  show own_Fin p.tables e below _ (T3.setTop (mkF m 49 #[.val (.ref r0), .val (.long (1 : Int64)), .second, .val (.long (((1 : Int32).toInt64) + (1 : Int64))), .second, .unset, .unset] [(.long (((1 : Int32).toInt64) + (1 : Int64))), (.long (((1 : Int32).toInt64) + (1 : Int64))), (.long ((2 : Int64) * ((1 : Int32).toInt64)))]))
  refine own_go (fun _ k => X3.ldc2J hx hown (mvT hZ (hw _ (List.mem_of_getElem? (i := 52) rfl))) rfl (hb hby dg11_49) k) ?_
  show own_Fin p.tables e below _ (T3.setTop (mkF m 52 #[.val (.ref r0), .val (.long (1 : Int64)), .second, .val (.long (((1 : Int32).toInt64) + (1 : Int64))), .second, .unset, .unset] [(.long (8 : Int64)), (.long (((1 : Int32).toInt64) + (1 : Int64))), (.long (((1 : Int32).toInt64) + (1 : Int64))), (.long ((2 : Int64) * ((1 : Int32).toInt64)))]))
  refine own_go (fun _ k => XT.ldiv X3.here hx rfl (hb hby dg11_52) rfl (by decide +kernel) k) ?_
  show own_Fin p.tables e below _ (T3.setTop (mkF m 53 #[.val (.ref r0), .val (.long (1 : Int64)), .second, .val (.long (((1 : Int32).toInt64) + (1 : Int64))), .second, .unset, .unset] [(.long ((((1 : Int32).toInt64) + (1 : Int64)) / (8 : Int64))), (.long (((1 : Int32).toInt64) + (1 : Int64))), (.long ((2 : Int64) * ((1 : Int32).toInt64)))]))
  refine own_go (fun _ k => XT.ladd X3.here hx rfl (hb hby dg11_53) rfl k) ?_
  show own_Fin p.tables e below _ (T3.setTop (mkF m 54 #[.val (.ref r0), .val (.long (1 : Int64)), .second, .val (.long (((1 : Int32).toInt64) + (1 : Int64))), .second, .unset, .unset] [(.long ((((1 : Int32).toInt64) + (1 : Int64)) + ((((1 : Int32).toInt64) + (1 : Int64)) / (8 : Int64)))), (.long ((2 : Int64) * ((1 : Int32).toInt64)))]))
  obtain ⟨_, T4, L4, X4, ⟨rfl, M4, e4⟩, st4⟩ := own_callS X3 hx hZ hown (hw _ (List.mem_of_getElem? (i := 53) rfl)) (hw _ (List.mem_of_getElem? (i := 54) rfl)) (hw _ (List.mem_of_getElem? (i := 55) rfl)) (hw _ (List.mem_of_getElem? (i := 56) rfl)) (by decide) (W := 0) (rm1 l Z a0 hw [] ((2 : Int64) * ((1 : Int32).toInt64)) ((((1 : Int32).toInt64) + (1 : Int64)) + ((((1 : Int32).toInt64) + (1 : Int64)) / (8 : Int64))) h0 n0 (Nat.le_trans Z0 K0.1) ) (by decide) (by decide) e3 (g := (mkF m 54 #[.val (.ref r0), .val (.long (1 : Int64)), .second, .val (.long (((1 : Int32).toInt64) + (1 : Int64))), .second, .unset, .unset] [(.long ((((1 : Int32).toInt64) + (1 : Int64)) + ((((1 : Int32).toInt64) + (1 : Int64)) / (8 : Int64)))), (.long ((2 : Int64) * ((1 : Int32).toInt64)))])) rfl (by rw [hml]; rfl) (argsL := [(.long ((2 : Int64) * ((1 : Int32).toInt64))), (.long ((((1 : Int32).toInt64) + (1 : Int64)) + ((((1 : Int32).toInt64) + (1 : Int64)) / (8 : Int64))))]) (rest := []) rfl (lenOf pd0 rfl) rfl (by show 2 * 0 + _ ≤ _; exact Nat.le_of_eq rfl) (hb hby dg11_54) (by decide) (by decide)
  have N4 := Fr.app N0 M4
  refine own_go st4 ?_
  show own_Fin p.tables e below _ (T4.setTop (mkF m 57 #[.val (.ref r0), .val (.long (1 : Int64)), .second, .val (.long (((1 : Int32).toInt64) + (1 : Int64))), .second, .unset, .unset] [(.long (f1 ((2 : Int64) * ((1 : Int32).toInt64)) ((((1 : Int32).toInt64) + (1 : Int64)) + ((((1 : Int32).toInt64) + (1 : Int64)) / (8 : Int64)))))]))
  refine own_go (fun _ k => XT.lstore X4.here hx rfl (hb hby dg11_57) rfl (l' := #[.val (.ref r0), .val (.long (1 : Int64)), .second, .val (.long (((1 : Int32).toInt64) + (1 : Int64))), .second, .val (.long (f1 ((2 : Int64) * ((1 : Int32).toInt64)) ((((1 : Int32).toInt64) + (1 : Int64)) + ((((1 : Int32).toInt64) + (1 : Int64)) / (8 : Int64))))), .second]) rfl k) ?_
  show own_Fin p.tables e below _ (T4.setTop (mkF m 59 #[.val (.ref r0), .val (.long (1 : Int64)), .second, .val (.long (((1 : Int32).toInt64) + (1 : Int64))), .second, .val (.long (f1 ((2 : Int64) * ((1 : Int32).toInt64)) ((((1 : Int32).toInt64) + (1 : Int64)) + ((((1 : Int32).toInt64) + (1 : Int64)) / (8 : Int64))))), .second] []))
  refine own_go (fun _ k => XS.aloadN X4.here hx rfl (hb hby dg11_59) rfl rfl k) ?_
  show own_Fin p.tables e below _ (T4.setTop (mkF m 60 #[.val (.ref r0), .val (.long (1 : Int64)), .second, .val (.long (((1 : Int32).toInt64) + (1 : Int64))), .second, .val (.long (f1 ((2 : Int64) * ((1 : Int32).toInt64)) ((((1 : Int32).toInt64) + (1 : Int64)) + ((((1 : Int32).toInt64) + (1 : Int64)) / (8 : Int64))))), .second] [(.ref r0)]))
  refine own_go (fun _ k => XS.aloadN X4.here hx rfl (hb hby dg11_60) rfl rfl k) ?_
  show own_Fin p.tables e below _ (T4.setTop (mkF m 61 #[.val (.ref r0), .val (.long (1 : Int64)), .second, .val (.long (((1 : Int32).toInt64) + (1 : Int64))), .second, .val (.long (f1 ((2 : Int64) * ((1 : Int32).toInt64)) ((((1 : Int32).toInt64) + (1 : Int64)) + ((((1 : Int32).toInt64) + (1 : Int64)) / (8 : Int64))))), .second] [(.ref r0), (.ref r0)]))
  obtain ⟨T5, X5, e5, st5⟩ := getF X4 hx hZ hown (host := "") (Or.inl (hw _ (List.mem_of_getElem? (i := 37) rfl))) Via.refl e4 F_b (g := (mkF m 61 #[.val (.ref r0), .val (.long (1 : Int64)), .second, .val (.long (((1 : Int32).toInt64) + (1 : Int64))), .second, .val (.long (f1 ((2 : Int64) * ((1 : Int32).toInt64)) ((((1 : Int32).toInt64) + (1 : Int64)) + ((((1 : Int32).toInt64) + (1 : Int64)) / (8 : Int64))))), .second] [(.ref r0), (.ref r0)])) rfl rfl (hb hby dg11_61)
  refine own_go st5 ?_
  show own_Fin p.tables e below _ (T5.setTop (mkF m 64 #[.val (.ref r0), .val (.long (1 : Int64)), .second, .val (.long (((1 : Int32).toInt64) + (1 : Int64))), .second, .val (.long (f1 ((2 : Int64) * ((1 : Int32).toInt64)) ((((1 : Int32).toInt64) + (1 : Int64)) + ((((1 : Int32).toInt64) + (1 : Int64)) / (8 : Int64))))), .second] [(.ref r5), (.ref r0)]))
  refine own_go (fun _ k => XT.lload X5.here hx rfl (hb hby dg11_64) rfl k) ?_
  show own_Fin p.tables e below _ (T5.setTop (mkF m 66 #[.val (.ref r0), .val (.long (1 : Int64)), .second, .val (.long (((1 : Int32).toInt64) + (1 : Int64))), .second, .val (.long (f1 ((2 : Int64) * ((1 : Int32).toInt64)) ((((1 : Int32).toInt64) + (1 : Int64)) + ((((1 : Int32).toInt64) + (1 : Int64)) / (8 : Int64))))), .second] [(.long (f1 ((2 : Int64) * ((1 : Int32).toInt64)) ((((1 : Int32).toInt64) + (1 : Int64)) + ((((1 : Int32).toInt64) + (1 : Int64)) / (8 : Int64))))), (.ref r5), (.ref r0)]))
  refine own_go (fun _ k => X5.ldc2J hx hown (mvT hZ (hw _ (List.mem_of_getElem? (i := 50) rfl))) rfl (hb hby dg11_66) k) ?_
  show own_Fin p.tables e below _ (T5.setTop (mkF m 69 #[.val (.ref r0), .val (.long (1 : Int64)), .second, .val (.long (((1 : Int32).toInt64) + (1 : Int64))), .second, .val (.long (f1 ((2 : Int64) * ((1 : Int32).toInt64)) ((((1 : Int32).toInt64) + (1 : Int64)) + ((((1 : Int32).toInt64) + (1 : Int64)) / (8 : Int64))))), .second] [(.long (2147483639 : Int64)), (.long (f1 ((2 : Int64) * ((1 : Int32).toInt64)) ((((1 : Int32).toInt64) + (1 : Int64)) + ((((1 : Int32).toInt64) + (1 : Int64)) / (8 : Int64))))), (.ref r5), (.ref r0)]))
  obtain ⟨_, T6, L6, X6, ⟨rfl, M6, e6⟩, st6⟩ := own_callS X5 hx hZ hown (hw _ (List.mem_of_getElem? (i := 57) rfl)) (hw _ (List.mem_of_getElem? (i := 58) rfl)) (hw _ (List.mem_of_getElem? (i := 55) rfl)) (hw _ (List.mem_of_getElem? (i := 59) rfl)) (by decide) (W := 2) (rm2 l Z a0 hw [] (f1 ((2 : Int64) * ((1 : Int32).toInt64)) ((((1 : Int32).toInt64) + (1 : Int64)) + ((((1 : Int32).toInt64) + (1 : Int64)) / (8 : Int64)))) (2147483639 : Int64) h0 n0 (Nat.le_trans Z0 K0.1) ) (by decide) (by decide) e5 (g := (mkF m 69 #[.val (.ref r0), .val (.long (1 : Int64)), .second, .val (.long (((1 : Int32).toInt64) + (1 : Int64))), .second, .val (.long (f1 ((2 : Int64) * ((1 : Int32).toInt64)) ((((1 : Int32).toInt64) + (1 : Int64)) + ((((1 : Int32).toInt64) + (1 : Int64)) / (8 : Int64))))), .second] [(.long (2147483639 : Int64)), (.long (f1 ((2 : Int64) * ((1 : Int32).toInt64)) ((((1 : Int32).toInt64) + (1 : Int64)) + ((((1 : Int32).toInt64) + (1 : Int64)) / (8 : Int64))))), (.ref r5), (.ref r0)])) rfl (by rw [hml]; rfl) (argsL := [(.long (f1 ((2 : Int64) * ((1 : Int32).toInt64)) ((((1 : Int32).toInt64) + (1 : Int64)) + ((((1 : Int32).toInt64) + (1 : Int64)) / (8 : Int64))))), (.long (2147483639 : Int64))]) (rest := [(.ref r5), (.ref r0)]) rfl (lenOf pd0 rfl) rfl (by show 2 * 0 + _ ≤ _; exact Nat.le_of_eq rfl) (hb hby dg11_69) (by decide) (by decide)
  have N6 := Fr.app N4 M6
  refine own_go st6 ?_
  show own_Fin p.tables e below _ (T6.setTop (mkF m 72 #[.val (.ref r0), .val (.long (1 : Int64)), .second, .val (.long (((1 : Int32).toInt64) + (1 : Int64))), .second, .val (.long (f1 ((2 : Int64) * ((1 : Int32).toInt64)) ((((1 : Int32).toInt64) + (1 : Int64)) + ((((1 : Int32).toInt64) + (1 : Int64)) / (8 : Int64))))), .second] [(.long (f2 (f1 ((2 : Int64) * ((1 : Int32).toInt64)) ((((1 : Int32).toInt64) + (1 : Int64)) + ((((1 : Int32).toInt64) + (1 : Int64)) / (8 : Int64)))) (2147483639 : Int64))), (.ref r5), (.ref r0)]))
  refine own_go (fun _ k => XT.l2i X6.here hx rfl (hb hby dg11_72) rfl k) ?_
  show own_Fin p.tables e below _ (T6.setTop (mkF m 73 #[.val (.ref r0), .val (.long (1 : Int64)), .second, .val (.long (((1 : Int32).toInt64) + (1 : Int64))), .second, .val (.long (f1 ((2 : Int64) * ((1 : Int32).toInt64)) ((((1 : Int32).toInt64) + (1 : Int64)) + ((((1 : Int32).toInt64) + (1 : Int64)) / (8 : Int64))))), .second] [(.int ((f2 (f1 ((2 : Int64) * ((1 : Int32).toInt64)) ((((1 : Int32).toInt64) + (1 : Int64)) + ((((1 : Int32).toInt64) + (1 : Int64)) / (8 : Int64)))) (2147483639 : Int64)).toInt32)), (.ref r5), (.ref r0)]))
  rw [show ((f2 (f1 ((2 : Int64) * ((1 : Int32).toInt64)) ((((1 : Int32).toInt64) + (1 : Int64)) + ((((1 : Int32).toInt64) + (1 : Int64)) / (8 : Int64)))) (2147483639 : Int64)).toInt32) = (2 : Int32) from by decide +kernel]
  show own_Fin p.tables e below _ (T6.setTop (mkF m 73 #[.val (.ref r0), .val (.long (1 : Int64)), .second, .val (.long (((1 : Int32).toInt64) + (1 : Int64))), .second, .val (.long (f1 ((2 : Int64) * ((1 : Int32).toInt64)) ((((1 : Int32).toInt64) + (1 : Int64)) + ((((1 : Int32).toInt64) + (1 : Int64)) / (8 : Int64))))), .second] [(.int (2 : Int32)), (.ref r5), (.ref r0)]))
  obtain ⟨_, T7, L7, X7, ⟨b7, kb7, rfl, M7, KK7, q7, V7⟩, st7⟩ := own_callS X6 hx hZ hown (hw _ (List.mem_of_getElem? (i := 60) rfl)) (hw _ (List.mem_of_getElem? (i := 61) rfl)) (hw _ (List.mem_of_getElem? (i := 62) rfl)) (hw _ (List.mem_of_getElem? (i := 63) rfl)) (by decide) (W := 1) (rmc12 l Z a0 hw [] r5 h0 n0 (Nat.le_trans Z0 K0.1) k5 w0 A_t) (by decide) (by decide) e6 (g := (mkF m 73 #[.val (.ref r0), .val (.long (1 : Int64)), .second, .val (.long (((1 : Int32).toInt64) + (1 : Int64))), .second, .val (.long (f1 ((2 : Int64) * ((1 : Int32).toInt64)) ((((1 : Int32).toInt64) + (1 : Int64)) + ((((1 : Int32).toInt64) + (1 : Int64)) / (8 : Int64))))), .second] [(.int (2 : Int32)), (.ref r5), (.ref r0)])) rfl (by rw [hml]; rfl) (argsL := [(.ref r5), (.int (2 : Int32))]) (rest := [(.ref r0)]) rfl (lenOf pd2 rfl) rfl (by show 2 * 0 + _ ≤ _; exact Nat.le_of_eq rfl) (hb hby dg11_73) (by decide) (by decide)
  have N7 := Fr.app N6 M7
  have ne_r0_b7 : r0 ≠ b7 := own_lt_ne E_a.lt q7
  have ne_r5_b7 : r5 ≠ b7 := own_lt_ne A_t.lt q7
  have Er0_7 := E_a.keep KK7
  have Fr0_bytes_7 := F_b.keep KK7 nin0
  have Fr0_length_7 := F_l.keep KK7 nin0
  have Vr5_7 := A_t.keep KK7 nin0
  have K7 := K0.trans KK7 all0
  refine own_go st7 ?_
  show own_Fin p.tables e below _ (T7.setTop (mkF m 76 #[.val (.ref r0), .val (.long (1 : Int64)), .second, .val (.long (((1 : Int32).toInt64) + (1 : Int64))), .second, .val (.long (f1 ((2 : Int64) * ((1 : Int32).toInt64)) ((((1 : Int32).toInt64) + (1 : Int64)) + ((((1 : Int32).toInt64) + (1 : Int64)) / (8 : Int64))))), .second] [(.ref b7), (.ref r0)]))
  obtain ⟨T8, h8, X8, e8, W8, st8⟩ := putF X7 hx hZ hown (host := "") (Or.inl (hw _ (List.mem_of_getElem? (i := 37) rfl))) Via.refl rfl Fr0_bytes_7 Er0_7 (Or.inl (hw _ (List.mem_of_getElem? (i := 38) rfl))) (hw _ (List.mem_of_getElem? (i := 31) rfl)) (ty := (.array .byte)) (by decide) rfl rfl (g := (mkF m 76 #[.val (.ref r0), .val (.long (1 : Int64)), .second, .val (.long (((1 : Int32).toInt64) + (1 : Int64))), .second, .val (.long (f1 ((2 : Int64) * ((1 : Int32).toInt64)) ((((1 : Int32).toInt64) + (1 : Int64)) + ((((1 : Int32).toInt64) + (1 : Int64)) / (8 : Int64))))), .second] [(.ref b7), (.ref r0)])) rfl rfl (hb hby dg11_76)
  have K8 := K7.wr W8 (Or.inl (List.mem_of_getElem? (i := 0) rfl))
  have N8 := Fr.snoc X8 N7 g_a
  have Er0_8 := Er0_7.wr W8
  have Fr0_bytes_8 := Fr0_bytes_7.same W8
  have Fr0_length_8 := Fr0_length_7.other W8 (Or.inr (slot_ne (Or.inl (hw _ (List.mem_of_getElem? (i := 49) rfl))) (Or.inl (hw _ (List.mem_of_getElem? (i := 38) rfl))) (by decide) (t := .int) (t' := (.array .byte)) (by decide) (by decide)))
  have Vr5_8 := Vr5_7.other W8 (Ne.symm (Exa.neArv E_a A_t (hw _ (List.mem_of_getElem? (i := 31) rfl))))
  have Vb7_8 := V7.other W8 (Ne.symm ne_r0_b7)
  refine own_go st8 ?_
  show own_Fin p.tables e below _ (T8.setTop (mkF m 79 #[.val (.ref r0), .val (.long (1 : Int64)), .second, .val (.long (((1 : Int32).toInt64) + (1 : Int64))), .second, .val (.long (f1 ((2 : Int64) * ((1 : Int32).toInt64)) ((((1 : Int32).toInt64) + (1 : Int64)) + ((((1 : Int32).toInt64) + (1 : Int64)) / (8 : Int64))))), .second] []))
  refine own_retV X8 hx hlk hret (hb hby dg11_79) ?_ (by decide) (by decide)
  show _ ∧ _ ∧ Keep h0 T8.heap _ ∧ _
  rw [e8]
  exact ⟨rfl, N8, K8, b7, kb7, Fr0_bytes_8, Fr0_length_8, (Nat.le_trans K0.1 q7), Vb7_8⟩
theorem dg22_0 : decode prog_16_method_23_code 0 = .ok (.aload_n 0, 1) := by decide +kernel
theorem dg22_1 : decode prog_16_method_23_code 1 = .ok (.getfield 98, 3) := by decide +kernel
theorem dg22_4 : decode prog_16_method_23_code 4 = .ok (.i2l, 1) := by decide +kernel
theorem dg22_5 : decode prog_16_method_23_code 5 = .ok (.lload_n 1, 1) := by decide +kernel
theorem dg22_6 : decode prog_16_method_23_code 6 = .ok (.ladd, 1) := by decide +kernel
theorem dg22_7 : decode prog_16_method_23_code 7 = .ok (.lstore_n 3, 1) := by decide +kernel
theorem dg22_8 : decode prog_16_method_23_code 8 = .ok (.lload_n 3, 1) := by decide +kernel
theorem dg22_9 : decode prog_16_method_23_code 9 = .ok (.aload_n 0, 1) := by decide +kernel
theorem dg22_10 : decode prog_16_method_23_code 10 = .ok (.getfield 7, 3) := by decide +kernel
theorem dg22_13 : decode prog_16_method_23_code 13 = .ok (.arraylength, 1) := by decide +kernel
theorem dg22_14 : decode prog_16_method_23_code 14 = .ok (.i2l, 1) := by decide +kernel
theorem dg22_15 : decode prog_16_method_23_code 15 = .ok (.lcmp, 1) := by decide +kernel
theorem dg22_16 : decode prog_16_method_23_code 16 = .ok (.ifCond .gt 4, 3) := by decide +kernel
theorem dg22_20 : decode prog_16_method_23_code 20 = .ok (.lload_n 3, 1) := by decide +kernel
theorem dg22_21 : decode prog_16_method_23_code 21 = .ok (.ldc2_w 192, 3) := by decide +kernel
theorem dg22_24 : decode prog_16_method_23_code 24 = .ok (.lcmp, 1) := by decide +kernel
theorem dg22_25 : decode prog_16_method_23_code 25 = .ok (.ifCond .le 12, 3) := by decide +kernel
theorem dg22_37 : decode prog_16_method_23_code 37 = .ok (.ldc2_w 124, 3) := by decide +kernel
theorem dg22_40 : decode prog_16_method_23_code 40 = .ok (.aload_n 0, 1) := by decide +kernel
theorem dg22_41 : decode prog_16_method_23_code 41 = .ok (.getfield 7, 3) := by decide +kernel
theorem dg22_44 : decode prog_16_method_23_code 44 = .ok (.arraylength, 1) := by decide +kernel
theorem dg22_45 : decode prog_16_method_23_code 45 = .ok (.i2l, 1) := by decide +kernel
theorem dg22_46 : decode prog_16_method_23_code 46 = .ok (.lmul, 1) := by decide +kernel
theorem dg22_47 : decode prog_16_method_23_code 47 = .ok (.lload_n 3, 1) := by decide +kernel
theorem dg22_48 : decode prog_16_method_23_code 48 = .ok (.lload_n 3, 1) := by decide +kernel
theorem dg22_49 : decode prog_16_method_23_code 49 = .ok (.ldc2_w 198, 3) := by decide +kernel
theorem dg22_52 : decode prog_16_method_23_code 52 = .ok (.ldiv, 1) := by decide +kernel
theorem dg22_53 : decode prog_16_method_23_code 53 = .ok (.ladd, 1) := by decide +kernel
theorem dg22_54 : decode prog_16_method_23_code 54 = .ok (.invokestatic 200, 3) := by decide +kernel
theorem dg22_57 : decode prog_16_method_23_code 57 = .ok (.lstore 5, 2) := by decide +kernel
theorem dg22_59 : decode prog_16_method_23_code 59 = .ok (.aload_n 0, 1) := by decide +kernel
theorem dg22_60 : decode prog_16_method_23_code 60 = .ok (.aload_n 0, 1) := by decide +kernel
theorem dg22_61 : decode prog_16_method_23_code 61 = .ok (.getfield 7, 3) := by decide +kernel
theorem dg22_64 : decode prog_16_method_23_code 64 = .ok (.lload 5, 2) := by decide +kernel
theorem dg22_66 : decode prog_16_method_23_code 66 = .ok (.ldc2_w 192, 3) := by decide +kernel
theorem dg22_69 : decode prog_16_method_23_code 69 = .ok (.invokestatic 204, 3) := by decide +kernel
theorem dg22_72 : decode prog_16_method_23_code 72 = .ok (.l2i, 1) := by decide +kernel
theorem dg22_73 : decode prog_16_method_23_code 73 = .ok (.invokestatic 140, 3) := by decide +kernel
theorem dg22_76 : decode prog_16_method_23_code 76 = .ok (.putfield 7, 3) := by decide +kernel
theorem dg22_79 : decode prog_16_method_23_code 79 = .ok (.return_, 1) := by decide +kernel
theorem efg22 (m : MethodId) (r0 : Addr) : entryFrame m #[(.ref r0), (.long (2 : Int64))] 7 = mkF m 0 #[.val (.ref r0), .val (.long (2 : Int64)), .second, .unset, .unset, .unset, .unset] [] := by first | (simp [entryFrame, mkF, argsToLocals, Value.category]; done) | rfl
set_option maxRecDepth 65536 in
set_option maxHeartbeats 40000000 in
theorem rmg22 (l : Launch) (Z : State) (a0 : Array Value) (hw : ∀ d ∈ tables_1, d.before a0 Z = true) (ws : List Jvm.Cond) (r0 : Addr) (h0 : Heap) (n0 : Nat) (Z0 : n0 ≤ h0.size) (r5 : Addr) (k5 : ClassId) (w0 : Int32) (w1 : Int32) (E_a : Exa Z h0 r0 "com/example/envelope/envelope/JsonOutput") (F_b : Fld Z h0 r0 "com/example/envelope/envelope/JsonOutput" "bytes" "[B" (.ref r5)) (F_l : Fld Z h0 r0 "com/example/envelope/envelope/JsonOutput" "length" "I" (.int (2 : Int32))) (A_t : Arv Z h0 r5 k5 .byte (2 : Int32) [(.int w0), (.int w1)] (.int (0 : Int32))) (g_a : n0 ≤ r0) (g_t : n0 ≤ r5) :
    own_Met l (⟨"com/example/envelope/envelope/JsonOutput", "ensureRoom", "(J)V"⟩ : MethodName) prog_16_method_23_code 7 none ({ frames := 2, cells := 1, slots := 4, locals := 42 } : Room) ws #[(.ref r0), (.long (2 : Int64))] Z h0 1 4 (fun v h L => v = none ∧ Fr n0 L ∧ Keep h0 h [r0] ∧ ∃ b k, Fld Z h r0 "com/example/envelope/envelope/JsonOutput" "bytes" "[B" (.ref b) ∧ Fld Z h r0 "com/example/envelope/envelope/JsonOutput" "length" "I" (.int (2 : Int32)) ∧ h0.size ≤ b ∧ Arv Z h b k .byte (4 : Int32) [(.int w0), (.int w1)] (.int (0 : Int32))) := by
  refine own_met (plainFor_of_name pn1) ?_
  intro p e s m below meth c s₁ hx hby hml hown hnm hret hlk hZ e0 X0
  have hml : c.maxLocals = 7 := hml
  have N0 := Fr.nil n0
  have K0 := Keep.refl h0 [r0]
  refine own_go (fun _ k => castTop (efg22 m r0) k) ?_
  show own_Fin p.tables e below _ (s₁.setTop (mkF m 0 #[.val (.ref r0), .val (.long (2 : Int64)), .second, .unset, .unset, .unset, .unset] []))
  refine own_go (fun _ k => XS.aloadN X0.here hx rfl (hb hby dg22_0) rfl rfl k) ?_
  show own_Fin p.tables e below _ (s₁.setTop (mkF m 1 #[.val (.ref r0), .val (.long (2 : Int64)), .second, .unset, .unset, .unset, .unset] [(.ref r0)]))
  obtain ⟨T1, X1, e1, st1⟩ := getF X0 hx hZ hown (host := "") (Or.inl (hw _ (List.mem_of_getElem? (i := 48) rfl))) Via.refl e0 F_l (g := (mkF m 1 #[.val (.ref r0), .val (.long (2 : Int64)), .second, .unset, .unset, .unset, .unset] [(.ref r0)])) rfl rfl (hb hby dg22_1)
  refine own_go st1 ?_
  show own_Fin p.tables e below _ (T1.setTop (mkF m 4 #[.val (.ref r0), .val (.long (2 : Int64)), .second, .unset, .unset, .unset, .unset] [(.int (2 : Int32))]))
  refine own_go (fun _ k => XT.i2l X1.here hx rfl (hb hby dg22_4) rfl k) ?_
  show own_Fin p.tables e below _ (T1.setTop (mkF m 5 #[.val (.ref r0), .val (.long (2 : Int64)), .second, .unset, .unset, .unset, .unset] [(.long ((2 : Int32).toInt64))]))
  refine own_go (fun _ k => XT.lloadN X1.here hx rfl (hb hby dg22_5) rfl k) ?_
  show own_Fin p.tables e below _ (T1.setTop (mkF m 6 #[.val (.ref r0), .val (.long (2 : Int64)), .second, .unset, .unset, .unset, .unset] [(.long (2 : Int64)), (.long ((2 : Int32).toInt64))]))
  refine own_go (fun _ k => XT.ladd X1.here hx rfl (hb hby dg22_6) rfl k) ?_
  show own_Fin p.tables e below _ (T1.setTop (mkF m 7 #[.val (.ref r0), .val (.long (2 : Int64)), .second, .unset, .unset, .unset, .unset] [(.long (((2 : Int32).toInt64) + (2 : Int64)))]))
  refine own_go (fun _ k => XT.lstoreN X1.here hx rfl (hb hby dg22_7) rfl (l' := #[.val (.ref r0), .val (.long (2 : Int64)), .second, .val (.long (((2 : Int32).toInt64) + (2 : Int64))), .second, .unset, .unset]) rfl k) ?_
  show own_Fin p.tables e below _ (T1.setTop (mkF m 8 #[.val (.ref r0), .val (.long (2 : Int64)), .second, .val (.long (((2 : Int32).toInt64) + (2 : Int64))), .second, .unset, .unset] []))
  refine own_go (fun _ k => XT.lloadN X1.here hx rfl (hb hby dg22_8) rfl k) ?_
  show own_Fin p.tables e below _ (T1.setTop (mkF m 9 #[.val (.ref r0), .val (.long (2 : Int64)), .second, .val (.long (((2 : Int32).toInt64) + (2 : Int64))), .second, .unset, .unset] [(.long (((2 : Int32).toInt64) + (2 : Int64)))]))
  refine own_go (fun _ k => XS.aloadN X1.here hx rfl (hb hby dg22_9) rfl rfl k) ?_
  show own_Fin p.tables e below _ (T1.setTop (mkF m 10 #[.val (.ref r0), .val (.long (2 : Int64)), .second, .val (.long (((2 : Int32).toInt64) + (2 : Int64))), .second, .unset, .unset] [(.ref r0), (.long (((2 : Int32).toInt64) + (2 : Int64)))]))
  obtain ⟨T2, X2, e2, st2⟩ := getF X1 hx hZ hown (host := "") (Or.inl (hw _ (List.mem_of_getElem? (i := 37) rfl))) Via.refl e1 F_b (g := (mkF m 10 #[.val (.ref r0), .val (.long (2 : Int64)), .second, .val (.long (((2 : Int32).toInt64) + (2 : Int64))), .second, .unset, .unset] [(.ref r0), (.long (((2 : Int32).toInt64) + (2 : Int64)))])) rfl rfl (hb hby dg22_10)
  refine own_go st2 ?_
  show own_Fin p.tables e below _ (T2.setTop (mkF m 13 #[.val (.ref r0), .val (.long (2 : Int64)), .second, .val (.long (((2 : Int32).toInt64) + (2 : Int64))), .second, .unset, .unset] [(.ref r5), (.long (((2 : Int32).toInt64) + (2 : Int64)))]))
  refine own_go (fun _ k => own_alen X2 hx hZ e2 A_t (g := (mkF m 13 #[.val (.ref r0), .val (.long (2 : Int64)), .second, .val (.long (((2 : Int32).toInt64) + (2 : Int64))), .second, .unset, .unset] [(.ref r5), (.long (((2 : Int32).toInt64) + (2 : Int64)))])) rfl (rest := [(.long (((2 : Int32).toInt64) + (2 : Int64)))]) rfl (hb hby dg22_13) k) ?_
  show own_Fin p.tables e below _ (T2.setTop (mkF m 14 #[.val (.ref r0), .val (.long (2 : Int64)), .second, .val (.long (((2 : Int32).toInt64) + (2 : Int64))), .second, .unset, .unset] [(.int (2 : Int32)), (.long (((2 : Int32).toInt64) + (2 : Int64)))]))
  refine own_go (fun _ k => XT.i2l X2.here hx rfl (hb hby dg22_14) rfl k) ?_
  show own_Fin p.tables e below _ (T2.setTop (mkF m 15 #[.val (.ref r0), .val (.long (2 : Int64)), .second, .val (.long (((2 : Int32).toInt64) + (2 : Int64))), .second, .unset, .unset] [(.long ((2 : Int32).toInt64)), (.long (((2 : Int32).toInt64) + (2 : Int64)))]))
  refine own_go (fun _ k => XT.lcmp X2.here hx rfl (hb hby dg22_15) rfl k) ?_
  show own_Fin p.tables e below _ (T2.setTop (mkF m 16 #[.val (.ref r0), .val (.long (2 : Int64)), .second, .val (.long (((2 : Int32).toInt64) + (2 : Int64))), .second, .unset, .unset] [(.int (XT.cmpL (((2 : Int32).toInt64) + (2 : Int64)) ((2 : Int32).toInt64)))]))
  refine own_go (fun _ k => XS.ifYes X2.here hx rfl (pc0 := 16) (pc' := 20) rfl (hb hby dg22_16) rfl (XT.ll_gt_t (by decide +kernel)) (by decide) (by decide) k) ?_
  show own_Fin p.tables e below _ (T2.setTop (mkF m 20 #[.val (.ref r0), .val (.long (2 : Int64)), .second, .val (.long (((2 : Int32).toInt64) + (2 : Int64))), .second, .unset, .unset] []))
  refine own_go (fun _ k => XT.lloadN X2.here hx rfl (hb hby dg22_20) rfl k) ?_
  show own_Fin p.tables e below _ (T2.setTop (mkF m 21 #[.val (.ref r0), .val (.long (2 : Int64)), .second, .val (.long (((2 : Int32).toInt64) + (2 : Int64))), .second, .unset, .unset] [(.long (((2 : Int32).toInt64) + (2 : Int64)))]))
  refine own_go (fun _ k => X2.ldc2J hx hown (mvT hZ (hw _ (List.mem_of_getElem? (i := 50) rfl))) rfl (hb hby dg22_21) k) ?_
  show own_Fin p.tables e below _ (T2.setTop (mkF m 24 #[.val (.ref r0), .val (.long (2 : Int64)), .second, .val (.long (((2 : Int32).toInt64) + (2 : Int64))), .second, .unset, .unset] [(.long (2147483639 : Int64)), (.long (((2 : Int32).toInt64) + (2 : Int64)))]))
  refine own_go (fun _ k => XT.lcmp X2.here hx rfl (hb hby dg22_24) rfl k) ?_
  show own_Fin p.tables e below _ (T2.setTop (mkF m 25 #[.val (.ref r0), .val (.long (2 : Int64)), .second, .val (.long (((2 : Int32).toInt64) + (2 : Int64))), .second, .unset, .unset] [(.int (XT.cmpL (((2 : Int32).toInt64) + (2 : Int64)) (2147483639 : Int64)))]))
  refine own_go (fun _ k => XS.ifYes X2.here hx rfl (pc0 := 25) (pc' := 37) rfl (hb hby dg22_25) rfl (XT.ll_le_t (by decide +kernel)) (by decide) (by decide) k) ?_
  show own_Fin p.tables e below _ (T2.setTop (mkF m 37 #[.val (.ref r0), .val (.long (2 : Int64)), .second, .val (.long (((2 : Int32).toInt64) + (2 : Int64))), .second, .unset, .unset] []))
  refine own_go (fun _ k => X2.ldc2J hx hown (mvT hZ (hw _ (List.mem_of_getElem? (i := 51) rfl))) rfl (hb hby dg22_37) k) ?_
  show own_Fin p.tables e below _ (T2.setTop (mkF m 40 #[.val (.ref r0), .val (.long (2 : Int64)), .second, .val (.long (((2 : Int32).toInt64) + (2 : Int64))), .second, .unset, .unset] [(.long (2 : Int64))]))
  refine own_go (fun _ k => XS.aloadN X2.here hx rfl (hb hby dg22_40) rfl rfl k) ?_
  show own_Fin p.tables e below _ (T2.setTop (mkF m 41 #[.val (.ref r0), .val (.long (2 : Int64)), .second, .val (.long (((2 : Int32).toInt64) + (2 : Int64))), .second, .unset, .unset] [(.ref r0), (.long (2 : Int64))]))
  obtain ⟨T3, X3, e3, st3⟩ := getF X2 hx hZ hown (host := "") (Or.inl (hw _ (List.mem_of_getElem? (i := 37) rfl))) Via.refl e2 F_b (g := (mkF m 41 #[.val (.ref r0), .val (.long (2 : Int64)), .second, .val (.long (((2 : Int32).toInt64) + (2 : Int64))), .second, .unset, .unset] [(.ref r0), (.long (2 : Int64))])) rfl rfl (hb hby dg22_41)
  refine own_go st3 ?_
  show own_Fin p.tables e below _ (T3.setTop (mkF m 44 #[.val (.ref r0), .val (.long (2 : Int64)), .second, .val (.long (((2 : Int32).toInt64) + (2 : Int64))), .second, .unset, .unset] [(.ref r5), (.long (2 : Int64))]))
  refine own_go (fun _ k => own_alen X3 hx hZ e3 A_t (g := (mkF m 44 #[.val (.ref r0), .val (.long (2 : Int64)), .second, .val (.long (((2 : Int32).toInt64) + (2 : Int64))), .second, .unset, .unset] [(.ref r5), (.long (2 : Int64))])) rfl (rest := [(.long (2 : Int64))]) rfl (hb hby dg22_44) k) ?_
  show own_Fin p.tables e below _ (T3.setTop (mkF m 45 #[.val (.ref r0), .val (.long (2 : Int64)), .second, .val (.long (((2 : Int32).toInt64) + (2 : Int64))), .second, .unset, .unset] [(.int (2 : Int32)), (.long (2 : Int64))]))
  refine own_go (fun _ k => XT.i2l X3.here hx rfl (hb hby dg22_45) rfl k) ?_
  show own_Fin p.tables e below _ (T3.setTop (mkF m 46 #[.val (.ref r0), .val (.long (2 : Int64)), .second, .val (.long (((2 : Int32).toInt64) + (2 : Int64))), .second, .unset, .unset] [(.long ((2 : Int32).toInt64)), (.long (2 : Int64))]))
  refine own_go (fun _ k => XT.lmul X3.here hx rfl (hb hby dg22_46) rfl k) ?_
  show own_Fin p.tables e below _ (T3.setTop (mkF m 47 #[.val (.ref r0), .val (.long (2 : Int64)), .second, .val (.long (((2 : Int32).toInt64) + (2 : Int64))), .second, .unset, .unset] [(.long ((2 : Int64) * ((2 : Int32).toInt64)))]))
  refine own_go (fun _ k => XT.lloadN X3.here hx rfl (hb hby dg22_47) rfl k) ?_
  show own_Fin p.tables e below _ (T3.setTop (mkF m 48 #[.val (.ref r0), .val (.long (2 : Int64)), .second, .val (.long (((2 : Int32).toInt64) + (2 : Int64))), .second, .unset, .unset] [(.long (((2 : Int32).toInt64) + (2 : Int64))), (.long ((2 : Int64) * ((2 : Int32).toInt64)))]))
  refine own_go (fun _ k => XT.lloadN X3.here hx rfl (hb hby dg22_48) rfl k) ?_
  show own_Fin p.tables e below _ (T3.setTop (mkF m 49 #[.val (.ref r0), .val (.long (2 : Int64)), .second, .val (.long (((2 : Int32).toInt64) + (2 : Int64))), .second, .unset, .unset] [(.long (((2 : Int32).toInt64) + (2 : Int64))), (.long (((2 : Int32).toInt64) + (2 : Int64))), (.long ((2 : Int64) * ((2 : Int32).toInt64)))]))
  refine own_go (fun _ k => X3.ldc2J hx hown (mvT hZ (hw _ (List.mem_of_getElem? (i := 52) rfl))) rfl (hb hby dg22_49) k) ?_
  show own_Fin p.tables e below _ (T3.setTop (mkF m 52 #[.val (.ref r0), .val (.long (2 : Int64)), .second, .val (.long (((2 : Int32).toInt64) + (2 : Int64))), .second, .unset, .unset] [(.long (8 : Int64)), (.long (((2 : Int32).toInt64) + (2 : Int64))), (.long (((2 : Int32).toInt64) + (2 : Int64))), (.long ((2 : Int64) * ((2 : Int32).toInt64)))]))
  refine own_go (fun _ k => XT.ldiv X3.here hx rfl (hb hby dg22_52) rfl (by decide +kernel) k) ?_
  show own_Fin p.tables e below _ (T3.setTop (mkF m 53 #[.val (.ref r0), .val (.long (2 : Int64)), .second, .val (.long (((2 : Int32).toInt64) + (2 : Int64))), .second, .unset, .unset] [(.long ((((2 : Int32).toInt64) + (2 : Int64)) / (8 : Int64))), (.long (((2 : Int32).toInt64) + (2 : Int64))), (.long ((2 : Int64) * ((2 : Int32).toInt64)))]))
  refine own_go (fun _ k => XT.ladd X3.here hx rfl (hb hby dg22_53) rfl k) ?_
  show own_Fin p.tables e below _ (T3.setTop (mkF m 54 #[.val (.ref r0), .val (.long (2 : Int64)), .second, .val (.long (((2 : Int32).toInt64) + (2 : Int64))), .second, .unset, .unset] [(.long ((((2 : Int32).toInt64) + (2 : Int64)) + ((((2 : Int32).toInt64) + (2 : Int64)) / (8 : Int64)))), (.long ((2 : Int64) * ((2 : Int32).toInt64)))]))
  obtain ⟨_, T4, L4, X4, ⟨rfl, M4, e4⟩, st4⟩ := own_callS X3 hx hZ hown (hw _ (List.mem_of_getElem? (i := 53) rfl)) (hw _ (List.mem_of_getElem? (i := 54) rfl)) (hw _ (List.mem_of_getElem? (i := 55) rfl)) (hw _ (List.mem_of_getElem? (i := 56) rfl)) (by decide) (W := 0) (rm1 l Z a0 hw [] ((2 : Int64) * ((2 : Int32).toInt64)) ((((2 : Int32).toInt64) + (2 : Int64)) + ((((2 : Int32).toInt64) + (2 : Int64)) / (8 : Int64))) h0 n0 (Nat.le_trans Z0 K0.1) ) (by decide) (by decide) e3 (g := (mkF m 54 #[.val (.ref r0), .val (.long (2 : Int64)), .second, .val (.long (((2 : Int32).toInt64) + (2 : Int64))), .second, .unset, .unset] [(.long ((((2 : Int32).toInt64) + (2 : Int64)) + ((((2 : Int32).toInt64) + (2 : Int64)) / (8 : Int64)))), (.long ((2 : Int64) * ((2 : Int32).toInt64)))])) rfl (by rw [hml]; rfl) (argsL := [(.long ((2 : Int64) * ((2 : Int32).toInt64))), (.long ((((2 : Int32).toInt64) + (2 : Int64)) + ((((2 : Int32).toInt64) + (2 : Int64)) / (8 : Int64))))]) (rest := []) rfl (lenOf pd0 rfl) rfl (by show 2 * 0 + _ ≤ _; exact Nat.le_of_eq rfl) (hb hby dg22_54) (by decide) (by decide)
  have N4 := Fr.app N0 M4
  refine own_go st4 ?_
  show own_Fin p.tables e below _ (T4.setTop (mkF m 57 #[.val (.ref r0), .val (.long (2 : Int64)), .second, .val (.long (((2 : Int32).toInt64) + (2 : Int64))), .second, .unset, .unset] [(.long (f1 ((2 : Int64) * ((2 : Int32).toInt64)) ((((2 : Int32).toInt64) + (2 : Int64)) + ((((2 : Int32).toInt64) + (2 : Int64)) / (8 : Int64)))))]))
  refine own_go (fun _ k => XT.lstore X4.here hx rfl (hb hby dg22_57) rfl (l' := #[.val (.ref r0), .val (.long (2 : Int64)), .second, .val (.long (((2 : Int32).toInt64) + (2 : Int64))), .second, .val (.long (f1 ((2 : Int64) * ((2 : Int32).toInt64)) ((((2 : Int32).toInt64) + (2 : Int64)) + ((((2 : Int32).toInt64) + (2 : Int64)) / (8 : Int64))))), .second]) rfl k) ?_
  show own_Fin p.tables e below _ (T4.setTop (mkF m 59 #[.val (.ref r0), .val (.long (2 : Int64)), .second, .val (.long (((2 : Int32).toInt64) + (2 : Int64))), .second, .val (.long (f1 ((2 : Int64) * ((2 : Int32).toInt64)) ((((2 : Int32).toInt64) + (2 : Int64)) + ((((2 : Int32).toInt64) + (2 : Int64)) / (8 : Int64))))), .second] []))
  refine own_go (fun _ k => XS.aloadN X4.here hx rfl (hb hby dg22_59) rfl rfl k) ?_
  show own_Fin p.tables e below _ (T4.setTop (mkF m 60 #[.val (.ref r0), .val (.long (2 : Int64)), .second, .val (.long (((2 : Int32).toInt64) + (2 : Int64))), .second, .val (.long (f1 ((2 : Int64) * ((2 : Int32).toInt64)) ((((2 : Int32).toInt64) + (2 : Int64)) + ((((2 : Int32).toInt64) + (2 : Int64)) / (8 : Int64))))), .second] [(.ref r0)]))
  refine own_go (fun _ k => XS.aloadN X4.here hx rfl (hb hby dg22_60) rfl rfl k) ?_
  show own_Fin p.tables e below _ (T4.setTop (mkF m 61 #[.val (.ref r0), .val (.long (2 : Int64)), .second, .val (.long (((2 : Int32).toInt64) + (2 : Int64))), .second, .val (.long (f1 ((2 : Int64) * ((2 : Int32).toInt64)) ((((2 : Int32).toInt64) + (2 : Int64)) + ((((2 : Int32).toInt64) + (2 : Int64)) / (8 : Int64))))), .second] [(.ref r0), (.ref r0)]))
  obtain ⟨T5, X5, e5, st5⟩ := getF X4 hx hZ hown (host := "") (Or.inl (hw _ (List.mem_of_getElem? (i := 37) rfl))) Via.refl e4 F_b (g := (mkF m 61 #[.val (.ref r0), .val (.long (2 : Int64)), .second, .val (.long (((2 : Int32).toInt64) + (2 : Int64))), .second, .val (.long (f1 ((2 : Int64) * ((2 : Int32).toInt64)) ((((2 : Int32).toInt64) + (2 : Int64)) + ((((2 : Int32).toInt64) + (2 : Int64)) / (8 : Int64))))), .second] [(.ref r0), (.ref r0)])) rfl rfl (hb hby dg22_61)
  refine own_go st5 ?_
  show own_Fin p.tables e below _ (T5.setTop (mkF m 64 #[.val (.ref r0), .val (.long (2 : Int64)), .second, .val (.long (((2 : Int32).toInt64) + (2 : Int64))), .second, .val (.long (f1 ((2 : Int64) * ((2 : Int32).toInt64)) ((((2 : Int32).toInt64) + (2 : Int64)) + ((((2 : Int32).toInt64) + (2 : Int64)) / (8 : Int64))))), .second] [(.ref r5), (.ref r0)]))
  refine own_go (fun _ k => XT.lload X5.here hx rfl (hb hby dg22_64) rfl k) ?_
  show own_Fin p.tables e below _ (T5.setTop (mkF m 66 #[.val (.ref r0), .val (.long (2 : Int64)), .second, .val (.long (((2 : Int32).toInt64) + (2 : Int64))), .second, .val (.long (f1 ((2 : Int64) * ((2 : Int32).toInt64)) ((((2 : Int32).toInt64) + (2 : Int64)) + ((((2 : Int32).toInt64) + (2 : Int64)) / (8 : Int64))))), .second] [(.long (f1 ((2 : Int64) * ((2 : Int32).toInt64)) ((((2 : Int32).toInt64) + (2 : Int64)) + ((((2 : Int32).toInt64) + (2 : Int64)) / (8 : Int64))))), (.ref r5), (.ref r0)]))
  refine own_go (fun _ k => X5.ldc2J hx hown (mvT hZ (hw _ (List.mem_of_getElem? (i := 50) rfl))) rfl (hb hby dg22_66) k) ?_
  show own_Fin p.tables e below _ (T5.setTop (mkF m 69 #[.val (.ref r0), .val (.long (2 : Int64)), .second, .val (.long (((2 : Int32).toInt64) + (2 : Int64))), .second, .val (.long (f1 ((2 : Int64) * ((2 : Int32).toInt64)) ((((2 : Int32).toInt64) + (2 : Int64)) + ((((2 : Int32).toInt64) + (2 : Int64)) / (8 : Int64))))), .second] [(.long (2147483639 : Int64)), (.long (f1 ((2 : Int64) * ((2 : Int32).toInt64)) ((((2 : Int32).toInt64) + (2 : Int64)) + ((((2 : Int32).toInt64) + (2 : Int64)) / (8 : Int64))))), (.ref r5), (.ref r0)]))
  obtain ⟨_, T6, L6, X6, ⟨rfl, M6, e6⟩, st6⟩ := own_callS X5 hx hZ hown (hw _ (List.mem_of_getElem? (i := 57) rfl)) (hw _ (List.mem_of_getElem? (i := 58) rfl)) (hw _ (List.mem_of_getElem? (i := 55) rfl)) (hw _ (List.mem_of_getElem? (i := 59) rfl)) (by decide) (W := 2) (rm2 l Z a0 hw [] (f1 ((2 : Int64) * ((2 : Int32).toInt64)) ((((2 : Int32).toInt64) + (2 : Int64)) + ((((2 : Int32).toInt64) + (2 : Int64)) / (8 : Int64)))) (2147483639 : Int64) h0 n0 (Nat.le_trans Z0 K0.1) ) (by decide) (by decide) e5 (g := (mkF m 69 #[.val (.ref r0), .val (.long (2 : Int64)), .second, .val (.long (((2 : Int32).toInt64) + (2 : Int64))), .second, .val (.long (f1 ((2 : Int64) * ((2 : Int32).toInt64)) ((((2 : Int32).toInt64) + (2 : Int64)) + ((((2 : Int32).toInt64) + (2 : Int64)) / (8 : Int64))))), .second] [(.long (2147483639 : Int64)), (.long (f1 ((2 : Int64) * ((2 : Int32).toInt64)) ((((2 : Int32).toInt64) + (2 : Int64)) + ((((2 : Int32).toInt64) + (2 : Int64)) / (8 : Int64))))), (.ref r5), (.ref r0)])) rfl (by rw [hml]; rfl) (argsL := [(.long (f1 ((2 : Int64) * ((2 : Int32).toInt64)) ((((2 : Int32).toInt64) + (2 : Int64)) + ((((2 : Int32).toInt64) + (2 : Int64)) / (8 : Int64))))), (.long (2147483639 : Int64))]) (rest := [(.ref r5), (.ref r0)]) rfl (lenOf pd0 rfl) rfl (by show 2 * 0 + _ ≤ _; exact Nat.le_of_eq rfl) (hb hby dg22_69) (by decide) (by decide)
  have N6 := Fr.app N4 M6
  refine own_go st6 ?_
  show own_Fin p.tables e below _ (T6.setTop (mkF m 72 #[.val (.ref r0), .val (.long (2 : Int64)), .second, .val (.long (((2 : Int32).toInt64) + (2 : Int64))), .second, .val (.long (f1 ((2 : Int64) * ((2 : Int32).toInt64)) ((((2 : Int32).toInt64) + (2 : Int64)) + ((((2 : Int32).toInt64) + (2 : Int64)) / (8 : Int64))))), .second] [(.long (f2 (f1 ((2 : Int64) * ((2 : Int32).toInt64)) ((((2 : Int32).toInt64) + (2 : Int64)) + ((((2 : Int32).toInt64) + (2 : Int64)) / (8 : Int64)))) (2147483639 : Int64))), (.ref r5), (.ref r0)]))
  refine own_go (fun _ k => XT.l2i X6.here hx rfl (hb hby dg22_72) rfl k) ?_
  show own_Fin p.tables e below _ (T6.setTop (mkF m 73 #[.val (.ref r0), .val (.long (2 : Int64)), .second, .val (.long (((2 : Int32).toInt64) + (2 : Int64))), .second, .val (.long (f1 ((2 : Int64) * ((2 : Int32).toInt64)) ((((2 : Int32).toInt64) + (2 : Int64)) + ((((2 : Int32).toInt64) + (2 : Int64)) / (8 : Int64))))), .second] [(.int ((f2 (f1 ((2 : Int64) * ((2 : Int32).toInt64)) ((((2 : Int32).toInt64) + (2 : Int64)) + ((((2 : Int32).toInt64) + (2 : Int64)) / (8 : Int64)))) (2147483639 : Int64)).toInt32)), (.ref r5), (.ref r0)]))
  rw [show ((f2 (f1 ((2 : Int64) * ((2 : Int32).toInt64)) ((((2 : Int32).toInt64) + (2 : Int64)) + ((((2 : Int32).toInt64) + (2 : Int64)) / (8 : Int64)))) (2147483639 : Int64)).toInt32) = (4 : Int32) from by decide +kernel]
  show own_Fin p.tables e below _ (T6.setTop (mkF m 73 #[.val (.ref r0), .val (.long (2 : Int64)), .second, .val (.long (((2 : Int32).toInt64) + (2 : Int64))), .second, .val (.long (f1 ((2 : Int64) * ((2 : Int32).toInt64)) ((((2 : Int32).toInt64) + (2 : Int64)) + ((((2 : Int32).toInt64) + (2 : Int64)) / (8 : Int64))))), .second] [(.int (4 : Int32)), (.ref r5), (.ref r0)]))
  obtain ⟨_, T7, L7, X7, ⟨b7, kb7, rfl, M7, KK7, q7, V7⟩, st7⟩ := own_callS X6 hx hZ hown (hw _ (List.mem_of_getElem? (i := 60) rfl)) (hw _ (List.mem_of_getElem? (i := 61) rfl)) (hw _ (List.mem_of_getElem? (i := 62) rfl)) (hw _ (List.mem_of_getElem? (i := 63) rfl)) (by decide) (W := 1) (rmc24 l Z a0 hw [] r5 h0 n0 (Nat.le_trans Z0 K0.1) k5 w0 w1 A_t) (by decide) (by decide) e6 (g := (mkF m 73 #[.val (.ref r0), .val (.long (2 : Int64)), .second, .val (.long (((2 : Int32).toInt64) + (2 : Int64))), .second, .val (.long (f1 ((2 : Int64) * ((2 : Int32).toInt64)) ((((2 : Int32).toInt64) + (2 : Int64)) + ((((2 : Int32).toInt64) + (2 : Int64)) / (8 : Int64))))), .second] [(.int (4 : Int32)), (.ref r5), (.ref r0)])) rfl (by rw [hml]; rfl) (argsL := [(.ref r5), (.int (4 : Int32))]) (rest := [(.ref r0)]) rfl (lenOf pd2 rfl) rfl (by show 2 * 0 + _ ≤ _; exact Nat.le_of_eq rfl) (hb hby dg22_73) (by decide) (by decide)
  have N7 := Fr.app N6 M7
  have ne_r0_b7 : r0 ≠ b7 := own_lt_ne E_a.lt q7
  have ne_r5_b7 : r5 ≠ b7 := own_lt_ne A_t.lt q7
  have Er0_7 := E_a.keep KK7
  have Fr0_bytes_7 := F_b.keep KK7 nin0
  have Fr0_length_7 := F_l.keep KK7 nin0
  have Vr5_7 := A_t.keep KK7 nin0
  have K7 := K0.trans KK7 all0
  refine own_go st7 ?_
  show own_Fin p.tables e below _ (T7.setTop (mkF m 76 #[.val (.ref r0), .val (.long (2 : Int64)), .second, .val (.long (((2 : Int32).toInt64) + (2 : Int64))), .second, .val (.long (f1 ((2 : Int64) * ((2 : Int32).toInt64)) ((((2 : Int32).toInt64) + (2 : Int64)) + ((((2 : Int32).toInt64) + (2 : Int64)) / (8 : Int64))))), .second] [(.ref b7), (.ref r0)]))
  obtain ⟨T8, h8, X8, e8, W8, st8⟩ := putF X7 hx hZ hown (host := "") (Or.inl (hw _ (List.mem_of_getElem? (i := 37) rfl))) Via.refl rfl Fr0_bytes_7 Er0_7 (Or.inl (hw _ (List.mem_of_getElem? (i := 38) rfl))) (hw _ (List.mem_of_getElem? (i := 31) rfl)) (ty := (.array .byte)) (by decide) rfl rfl (g := (mkF m 76 #[.val (.ref r0), .val (.long (2 : Int64)), .second, .val (.long (((2 : Int32).toInt64) + (2 : Int64))), .second, .val (.long (f1 ((2 : Int64) * ((2 : Int32).toInt64)) ((((2 : Int32).toInt64) + (2 : Int64)) + ((((2 : Int32).toInt64) + (2 : Int64)) / (8 : Int64))))), .second] [(.ref b7), (.ref r0)])) rfl rfl (hb hby dg22_76)
  have K8 := K7.wr W8 (Or.inl (List.mem_of_getElem? (i := 0) rfl))
  have N8 := Fr.snoc X8 N7 g_a
  have Er0_8 := Er0_7.wr W8
  have Fr0_bytes_8 := Fr0_bytes_7.same W8
  have Fr0_length_8 := Fr0_length_7.other W8 (Or.inr (slot_ne (Or.inl (hw _ (List.mem_of_getElem? (i := 49) rfl))) (Or.inl (hw _ (List.mem_of_getElem? (i := 38) rfl))) (by decide) (t := .int) (t' := (.array .byte)) (by decide) (by decide)))
  have Vr5_8 := Vr5_7.other W8 (Ne.symm (Exa.neArv E_a A_t (hw _ (List.mem_of_getElem? (i := 31) rfl))))
  have Vb7_8 := V7.other W8 (Ne.symm ne_r0_b7)
  refine own_go st8 ?_
  show own_Fin p.tables e below _ (T8.setTop (mkF m 79 #[.val (.ref r0), .val (.long (2 : Int64)), .second, .val (.long (((2 : Int32).toInt64) + (2 : Int64))), .second, .val (.long (f1 ((2 : Int64) * ((2 : Int32).toInt64)) ((((2 : Int32).toInt64) + (2 : Int64)) + ((((2 : Int32).toInt64) + (2 : Int64)) / (8 : Int64))))), .second] []))
  refine own_retV X8 hx hlk hret (hb hby dg22_79) ?_ (by decide) (by decide)
  show _ ∧ _ ∧ Keep h0 T8.heap _ ∧ _
  rw [e8]
  exact ⟨rfl, N8, K8, b7, kb7, Fr0_bytes_8, Fr0_length_8, (Nat.le_trans K0.1 q7), Vb7_8⟩
theorem dg23_0 : decode prog_16_method_23_code 0 = .ok (.aload_n 0, 1) := by decide +kernel
theorem dg23_1 : decode prog_16_method_23_code 1 = .ok (.getfield 98, 3) := by decide +kernel
theorem dg23_4 : decode prog_16_method_23_code 4 = .ok (.i2l, 1) := by decide +kernel
theorem dg23_5 : decode prog_16_method_23_code 5 = .ok (.lload_n 1, 1) := by decide +kernel
theorem dg23_6 : decode prog_16_method_23_code 6 = .ok (.ladd, 1) := by decide +kernel
theorem dg23_7 : decode prog_16_method_23_code 7 = .ok (.lstore_n 3, 1) := by decide +kernel
theorem dg23_8 : decode prog_16_method_23_code 8 = .ok (.lload_n 3, 1) := by decide +kernel
theorem dg23_9 : decode prog_16_method_23_code 9 = .ok (.aload_n 0, 1) := by decide +kernel
theorem dg23_10 : decode prog_16_method_23_code 10 = .ok (.getfield 7, 3) := by decide +kernel
theorem dg23_13 : decode prog_16_method_23_code 13 = .ok (.arraylength, 1) := by decide +kernel
theorem dg23_14 : decode prog_16_method_23_code 14 = .ok (.i2l, 1) := by decide +kernel
theorem dg23_15 : decode prog_16_method_23_code 15 = .ok (.lcmp, 1) := by decide +kernel
theorem dg23_16 : decode prog_16_method_23_code 16 = .ok (.ifCond .gt 4, 3) := by decide +kernel
theorem dg23_20 : decode prog_16_method_23_code 20 = .ok (.lload_n 3, 1) := by decide +kernel
theorem dg23_21 : decode prog_16_method_23_code 21 = .ok (.ldc2_w 192, 3) := by decide +kernel
theorem dg23_24 : decode prog_16_method_23_code 24 = .ok (.lcmp, 1) := by decide +kernel
theorem dg23_25 : decode prog_16_method_23_code 25 = .ok (.ifCond .le 12, 3) := by decide +kernel
theorem dg23_37 : decode prog_16_method_23_code 37 = .ok (.ldc2_w 124, 3) := by decide +kernel
theorem dg23_40 : decode prog_16_method_23_code 40 = .ok (.aload_n 0, 1) := by decide +kernel
theorem dg23_41 : decode prog_16_method_23_code 41 = .ok (.getfield 7, 3) := by decide +kernel
theorem dg23_44 : decode prog_16_method_23_code 44 = .ok (.arraylength, 1) := by decide +kernel
theorem dg23_45 : decode prog_16_method_23_code 45 = .ok (.i2l, 1) := by decide +kernel
theorem dg23_46 : decode prog_16_method_23_code 46 = .ok (.lmul, 1) := by decide +kernel
theorem dg23_47 : decode prog_16_method_23_code 47 = .ok (.lload_n 3, 1) := by decide +kernel
theorem dg23_48 : decode prog_16_method_23_code 48 = .ok (.lload_n 3, 1) := by decide +kernel
theorem dg23_49 : decode prog_16_method_23_code 49 = .ok (.ldc2_w 198, 3) := by decide +kernel
theorem dg23_52 : decode prog_16_method_23_code 52 = .ok (.ldiv, 1) := by decide +kernel
theorem dg23_53 : decode prog_16_method_23_code 53 = .ok (.ladd, 1) := by decide +kernel
theorem dg23_54 : decode prog_16_method_23_code 54 = .ok (.invokestatic 200, 3) := by decide +kernel
theorem dg23_57 : decode prog_16_method_23_code 57 = .ok (.lstore 5, 2) := by decide +kernel
theorem dg23_59 : decode prog_16_method_23_code 59 = .ok (.aload_n 0, 1) := by decide +kernel
theorem dg23_60 : decode prog_16_method_23_code 60 = .ok (.aload_n 0, 1) := by decide +kernel
theorem dg23_61 : decode prog_16_method_23_code 61 = .ok (.getfield 7, 3) := by decide +kernel
theorem dg23_64 : decode prog_16_method_23_code 64 = .ok (.lload 5, 2) := by decide +kernel
theorem dg23_66 : decode prog_16_method_23_code 66 = .ok (.ldc2_w 192, 3) := by decide +kernel
theorem dg23_69 : decode prog_16_method_23_code 69 = .ok (.invokestatic 204, 3) := by decide +kernel
theorem dg23_72 : decode prog_16_method_23_code 72 = .ok (.l2i, 1) := by decide +kernel
theorem dg23_73 : decode prog_16_method_23_code 73 = .ok (.invokestatic 140, 3) := by decide +kernel
theorem dg23_76 : decode prog_16_method_23_code 76 = .ok (.putfield 7, 3) := by decide +kernel
theorem dg23_79 : decode prog_16_method_23_code 79 = .ok (.return_, 1) := by decide +kernel
theorem efg23 (m : MethodId) (r0 : Addr) : entryFrame m #[(.ref r0), (.long (2 : Int64))] 7 = mkF m 0 #[.val (.ref r0), .val (.long (2 : Int64)), .second, .unset, .unset, .unset, .unset] [] := by first | (simp [entryFrame, mkF, argsToLocals, Value.category]; done) | rfl
set_option maxRecDepth 65536 in
set_option maxHeartbeats 40000000 in
theorem rmg23 (l : Launch) (Z : State) (a0 : Array Value) (hw : ∀ d ∈ tables_1, d.before a0 Z = true) (ws : List Jvm.Cond) (r0 : Addr) (h0 : Heap) (n0 : Nat) (Z0 : n0 ≤ h0.size) (r5 : Addr) (k5 : ClassId) (w0 : Int32) (w1 : Int32) (E_a : Exa Z h0 r0 "com/example/envelope/envelope/JsonOutput") (F_b : Fld Z h0 r0 "com/example/envelope/envelope/JsonOutput" "bytes" "[B" (.ref r5)) (F_l : Fld Z h0 r0 "com/example/envelope/envelope/JsonOutput" "length" "I" (.int (2 : Int32))) (A_t : Arv Z h0 r5 k5 .byte (3 : Int32) [(.int w0), (.int w1)] (.int (0 : Int32))) (g_a : n0 ≤ r0) (g_t : n0 ≤ r5) :
    own_Met l (⟨"com/example/envelope/envelope/JsonOutput", "ensureRoom", "(J)V"⟩ : MethodName) prog_16_method_23_code 7 none ({ frames := 2, cells := 1, slots := 6, locals := 42 } : Room) ws #[(.ref r0), (.long (2 : Int64))] Z h0 1 6 (fun v h L => v = none ∧ Fr n0 L ∧ Keep h0 h [r0] ∧ ∃ b k, Fld Z h r0 "com/example/envelope/envelope/JsonOutput" "bytes" "[B" (.ref b) ∧ Fld Z h r0 "com/example/envelope/envelope/JsonOutput" "length" "I" (.int (2 : Int32)) ∧ h0.size ≤ b ∧ Arv Z h b k .byte (6 : Int32) [(.int w0), (.int w1)] (.int (0 : Int32))) := by
  refine own_met (plainFor_of_name pn1) ?_
  intro p e s m below meth c s₁ hx hby hml hown hnm hret hlk hZ e0 X0
  have hml : c.maxLocals = 7 := hml
  have N0 := Fr.nil n0
  have K0 := Keep.refl h0 [r0]
  refine own_go (fun _ k => castTop (efg23 m r0) k) ?_
  show own_Fin p.tables e below _ (s₁.setTop (mkF m 0 #[.val (.ref r0), .val (.long (2 : Int64)), .second, .unset, .unset, .unset, .unset] []))
  refine own_go (fun _ k => XS.aloadN X0.here hx rfl (hb hby dg23_0) rfl rfl k) ?_
  show own_Fin p.tables e below _ (s₁.setTop (mkF m 1 #[.val (.ref r0), .val (.long (2 : Int64)), .second, .unset, .unset, .unset, .unset] [(.ref r0)]))
  obtain ⟨T1, X1, e1, st1⟩ := getF X0 hx hZ hown (host := "") (Or.inl (hw _ (List.mem_of_getElem? (i := 48) rfl))) Via.refl e0 F_l (g := (mkF m 1 #[.val (.ref r0), .val (.long (2 : Int64)), .second, .unset, .unset, .unset, .unset] [(.ref r0)])) rfl rfl (hb hby dg23_1)
  refine own_go st1 ?_
  show own_Fin p.tables e below _ (T1.setTop (mkF m 4 #[.val (.ref r0), .val (.long (2 : Int64)), .second, .unset, .unset, .unset, .unset] [(.int (2 : Int32))]))
  refine own_go (fun _ k => XT.i2l X1.here hx rfl (hb hby dg23_4) rfl k) ?_
  show own_Fin p.tables e below _ (T1.setTop (mkF m 5 #[.val (.ref r0), .val (.long (2 : Int64)), .second, .unset, .unset, .unset, .unset] [(.long ((2 : Int32).toInt64))]))
  refine own_go (fun _ k => XT.lloadN X1.here hx rfl (hb hby dg23_5) rfl k) ?_
  show own_Fin p.tables e below _ (T1.setTop (mkF m 6 #[.val (.ref r0), .val (.long (2 : Int64)), .second, .unset, .unset, .unset, .unset] [(.long (2 : Int64)), (.long ((2 : Int32).toInt64))]))
  refine own_go (fun _ k => XT.ladd X1.here hx rfl (hb hby dg23_6) rfl k) ?_
  show own_Fin p.tables e below _ (T1.setTop (mkF m 7 #[.val (.ref r0), .val (.long (2 : Int64)), .second, .unset, .unset, .unset, .unset] [(.long (((2 : Int32).toInt64) + (2 : Int64)))]))
  refine own_go (fun _ k => XT.lstoreN X1.here hx rfl (hb hby dg23_7) rfl (l' := #[.val (.ref r0), .val (.long (2 : Int64)), .second, .val (.long (((2 : Int32).toInt64) + (2 : Int64))), .second, .unset, .unset]) rfl k) ?_
  show own_Fin p.tables e below _ (T1.setTop (mkF m 8 #[.val (.ref r0), .val (.long (2 : Int64)), .second, .val (.long (((2 : Int32).toInt64) + (2 : Int64))), .second, .unset, .unset] []))
  refine own_go (fun _ k => XT.lloadN X1.here hx rfl (hb hby dg23_8) rfl k) ?_
  show own_Fin p.tables e below _ (T1.setTop (mkF m 9 #[.val (.ref r0), .val (.long (2 : Int64)), .second, .val (.long (((2 : Int32).toInt64) + (2 : Int64))), .second, .unset, .unset] [(.long (((2 : Int32).toInt64) + (2 : Int64)))]))
  refine own_go (fun _ k => XS.aloadN X1.here hx rfl (hb hby dg23_9) rfl rfl k) ?_
  show own_Fin p.tables e below _ (T1.setTop (mkF m 10 #[.val (.ref r0), .val (.long (2 : Int64)), .second, .val (.long (((2 : Int32).toInt64) + (2 : Int64))), .second, .unset, .unset] [(.ref r0), (.long (((2 : Int32).toInt64) + (2 : Int64)))]))
  obtain ⟨T2, X2, e2, st2⟩ := getF X1 hx hZ hown (host := "") (Or.inl (hw _ (List.mem_of_getElem? (i := 37) rfl))) Via.refl e1 F_b (g := (mkF m 10 #[.val (.ref r0), .val (.long (2 : Int64)), .second, .val (.long (((2 : Int32).toInt64) + (2 : Int64))), .second, .unset, .unset] [(.ref r0), (.long (((2 : Int32).toInt64) + (2 : Int64)))])) rfl rfl (hb hby dg23_10)
  refine own_go st2 ?_
  show own_Fin p.tables e below _ (T2.setTop (mkF m 13 #[.val (.ref r0), .val (.long (2 : Int64)), .second, .val (.long (((2 : Int32).toInt64) + (2 : Int64))), .second, .unset, .unset] [(.ref r5), (.long (((2 : Int32).toInt64) + (2 : Int64)))]))
  refine own_go (fun _ k => own_alen X2 hx hZ e2 A_t (g := (mkF m 13 #[.val (.ref r0), .val (.long (2 : Int64)), .second, .val (.long (((2 : Int32).toInt64) + (2 : Int64))), .second, .unset, .unset] [(.ref r5), (.long (((2 : Int32).toInt64) + (2 : Int64)))])) rfl (rest := [(.long (((2 : Int32).toInt64) + (2 : Int64)))]) rfl (hb hby dg23_13) k) ?_
  show own_Fin p.tables e below _ (T2.setTop (mkF m 14 #[.val (.ref r0), .val (.long (2 : Int64)), .second, .val (.long (((2 : Int32).toInt64) + (2 : Int64))), .second, .unset, .unset] [(.int (3 : Int32)), (.long (((2 : Int32).toInt64) + (2 : Int64)))]))
  refine own_go (fun _ k => XT.i2l X2.here hx rfl (hb hby dg23_14) rfl k) ?_
  show own_Fin p.tables e below _ (T2.setTop (mkF m 15 #[.val (.ref r0), .val (.long (2 : Int64)), .second, .val (.long (((2 : Int32).toInt64) + (2 : Int64))), .second, .unset, .unset] [(.long ((3 : Int32).toInt64)), (.long (((2 : Int32).toInt64) + (2 : Int64)))]))
  refine own_go (fun _ k => XT.lcmp X2.here hx rfl (hb hby dg23_15) rfl k) ?_
  show own_Fin p.tables e below _ (T2.setTop (mkF m 16 #[.val (.ref r0), .val (.long (2 : Int64)), .second, .val (.long (((2 : Int32).toInt64) + (2 : Int64))), .second, .unset, .unset] [(.int (XT.cmpL (((2 : Int32).toInt64) + (2 : Int64)) ((3 : Int32).toInt64)))]))
  refine own_go (fun _ k => XS.ifYes X2.here hx rfl (pc0 := 16) (pc' := 20) rfl (hb hby dg23_16) rfl (XT.ll_gt_t (by decide +kernel)) (by decide) (by decide) k) ?_
  show own_Fin p.tables e below _ (T2.setTop (mkF m 20 #[.val (.ref r0), .val (.long (2 : Int64)), .second, .val (.long (((2 : Int32).toInt64) + (2 : Int64))), .second, .unset, .unset] []))
  refine own_go (fun _ k => XT.lloadN X2.here hx rfl (hb hby dg23_20) rfl k) ?_
  show own_Fin p.tables e below _ (T2.setTop (mkF m 21 #[.val (.ref r0), .val (.long (2 : Int64)), .second, .val (.long (((2 : Int32).toInt64) + (2 : Int64))), .second, .unset, .unset] [(.long (((2 : Int32).toInt64) + (2 : Int64)))]))
  refine own_go (fun _ k => X2.ldc2J hx hown (mvT hZ (hw _ (List.mem_of_getElem? (i := 50) rfl))) rfl (hb hby dg23_21) k) ?_
  show own_Fin p.tables e below _ (T2.setTop (mkF m 24 #[.val (.ref r0), .val (.long (2 : Int64)), .second, .val (.long (((2 : Int32).toInt64) + (2 : Int64))), .second, .unset, .unset] [(.long (2147483639 : Int64)), (.long (((2 : Int32).toInt64) + (2 : Int64)))]))
  refine own_go (fun _ k => XT.lcmp X2.here hx rfl (hb hby dg23_24) rfl k) ?_
  show own_Fin p.tables e below _ (T2.setTop (mkF m 25 #[.val (.ref r0), .val (.long (2 : Int64)), .second, .val (.long (((2 : Int32).toInt64) + (2 : Int64))), .second, .unset, .unset] [(.int (XT.cmpL (((2 : Int32).toInt64) + (2 : Int64)) (2147483639 : Int64)))]))
  refine own_go (fun _ k => XS.ifYes X2.here hx rfl (pc0 := 25) (pc' := 37) rfl (hb hby dg23_25) rfl (XT.ll_le_t (by decide +kernel)) (by decide) (by decide) k) ?_
  show own_Fin p.tables e below _ (T2.setTop (mkF m 37 #[.val (.ref r0), .val (.long (2 : Int64)), .second, .val (.long (((2 : Int32).toInt64) + (2 : Int64))), .second, .unset, .unset] []))
  refine own_go (fun _ k => X2.ldc2J hx hown (mvT hZ (hw _ (List.mem_of_getElem? (i := 51) rfl))) rfl (hb hby dg23_37) k) ?_
  show own_Fin p.tables e below _ (T2.setTop (mkF m 40 #[.val (.ref r0), .val (.long (2 : Int64)), .second, .val (.long (((2 : Int32).toInt64) + (2 : Int64))), .second, .unset, .unset] [(.long (2 : Int64))]))
  refine own_go (fun _ k => XS.aloadN X2.here hx rfl (hb hby dg23_40) rfl rfl k) ?_
  show own_Fin p.tables e below _ (T2.setTop (mkF m 41 #[.val (.ref r0), .val (.long (2 : Int64)), .second, .val (.long (((2 : Int32).toInt64) + (2 : Int64))), .second, .unset, .unset] [(.ref r0), (.long (2 : Int64))]))
  obtain ⟨T3, X3, e3, st3⟩ := getF X2 hx hZ hown (host := "") (Or.inl (hw _ (List.mem_of_getElem? (i := 37) rfl))) Via.refl e2 F_b (g := (mkF m 41 #[.val (.ref r0), .val (.long (2 : Int64)), .second, .val (.long (((2 : Int32).toInt64) + (2 : Int64))), .second, .unset, .unset] [(.ref r0), (.long (2 : Int64))])) rfl rfl (hb hby dg23_41)
  refine own_go st3 ?_
  show own_Fin p.tables e below _ (T3.setTop (mkF m 44 #[.val (.ref r0), .val (.long (2 : Int64)), .second, .val (.long (((2 : Int32).toInt64) + (2 : Int64))), .second, .unset, .unset] [(.ref r5), (.long (2 : Int64))]))
  refine own_go (fun _ k => own_alen X3 hx hZ e3 A_t (g := (mkF m 44 #[.val (.ref r0), .val (.long (2 : Int64)), .second, .val (.long (((2 : Int32).toInt64) + (2 : Int64))), .second, .unset, .unset] [(.ref r5), (.long (2 : Int64))])) rfl (rest := [(.long (2 : Int64))]) rfl (hb hby dg23_44) k) ?_
  show own_Fin p.tables e below _ (T3.setTop (mkF m 45 #[.val (.ref r0), .val (.long (2 : Int64)), .second, .val (.long (((2 : Int32).toInt64) + (2 : Int64))), .second, .unset, .unset] [(.int (3 : Int32)), (.long (2 : Int64))]))
  refine own_go (fun _ k => XT.i2l X3.here hx rfl (hb hby dg23_45) rfl k) ?_
  show own_Fin p.tables e below _ (T3.setTop (mkF m 46 #[.val (.ref r0), .val (.long (2 : Int64)), .second, .val (.long (((2 : Int32).toInt64) + (2 : Int64))), .second, .unset, .unset] [(.long ((3 : Int32).toInt64)), (.long (2 : Int64))]))
  refine own_go (fun _ k => XT.lmul X3.here hx rfl (hb hby dg23_46) rfl k) ?_
  show own_Fin p.tables e below _ (T3.setTop (mkF m 47 #[.val (.ref r0), .val (.long (2 : Int64)), .second, .val (.long (((2 : Int32).toInt64) + (2 : Int64))), .second, .unset, .unset] [(.long ((2 : Int64) * ((3 : Int32).toInt64)))]))
  refine own_go (fun _ k => XT.lloadN X3.here hx rfl (hb hby dg23_47) rfl k) ?_
  show own_Fin p.tables e below _ (T3.setTop (mkF m 48 #[.val (.ref r0), .val (.long (2 : Int64)), .second, .val (.long (((2 : Int32).toInt64) + (2 : Int64))), .second, .unset, .unset] [(.long (((2 : Int32).toInt64) + (2 : Int64))), (.long ((2 : Int64) * ((3 : Int32).toInt64)))]))
  refine own_go (fun _ k => XT.lloadN X3.here hx rfl (hb hby dg23_48) rfl k) ?_
  show own_Fin p.tables e below _ (T3.setTop (mkF m 49 #[.val (.ref r0), .val (.long (2 : Int64)), .second, .val (.long (((2 : Int32).toInt64) + (2 : Int64))), .second, .unset, .unset] [(.long (((2 : Int32).toInt64) + (2 : Int64))), (.long (((2 : Int32).toInt64) + (2 : Int64))), (.long ((2 : Int64) * ((3 : Int32).toInt64)))]))
  refine own_go (fun _ k => X3.ldc2J hx hown (mvT hZ (hw _ (List.mem_of_getElem? (i := 52) rfl))) rfl (hb hby dg23_49) k) ?_
  show own_Fin p.tables e below _ (T3.setTop (mkF m 52 #[.val (.ref r0), .val (.long (2 : Int64)), .second, .val (.long (((2 : Int32).toInt64) + (2 : Int64))), .second, .unset, .unset] [(.long (8 : Int64)), (.long (((2 : Int32).toInt64) + (2 : Int64))), (.long (((2 : Int32).toInt64) + (2 : Int64))), (.long ((2 : Int64) * ((3 : Int32).toInt64)))]))
  refine own_go (fun _ k => XT.ldiv X3.here hx rfl (hb hby dg23_52) rfl (by decide +kernel) k) ?_
  show own_Fin p.tables e below _ (T3.setTop (mkF m 53 #[.val (.ref r0), .val (.long (2 : Int64)), .second, .val (.long (((2 : Int32).toInt64) + (2 : Int64))), .second, .unset, .unset] [(.long ((((2 : Int32).toInt64) + (2 : Int64)) / (8 : Int64))), (.long (((2 : Int32).toInt64) + (2 : Int64))), (.long ((2 : Int64) * ((3 : Int32).toInt64)))]))
  refine own_go (fun _ k => XT.ladd X3.here hx rfl (hb hby dg23_53) rfl k) ?_
  show own_Fin p.tables e below _ (T3.setTop (mkF m 54 #[.val (.ref r0), .val (.long (2 : Int64)), .second, .val (.long (((2 : Int32).toInt64) + (2 : Int64))), .second, .unset, .unset] [(.long ((((2 : Int32).toInt64) + (2 : Int64)) + ((((2 : Int32).toInt64) + (2 : Int64)) / (8 : Int64)))), (.long ((2 : Int64) * ((3 : Int32).toInt64)))]))
  obtain ⟨_, T4, L4, X4, ⟨rfl, M4, e4⟩, st4⟩ := own_callS X3 hx hZ hown (hw _ (List.mem_of_getElem? (i := 53) rfl)) (hw _ (List.mem_of_getElem? (i := 54) rfl)) (hw _ (List.mem_of_getElem? (i := 55) rfl)) (hw _ (List.mem_of_getElem? (i := 56) rfl)) (by decide) (W := 0) (rm1 l Z a0 hw [] ((2 : Int64) * ((3 : Int32).toInt64)) ((((2 : Int32).toInt64) + (2 : Int64)) + ((((2 : Int32).toInt64) + (2 : Int64)) / (8 : Int64))) h0 n0 (Nat.le_trans Z0 K0.1) ) (by decide) (by decide) e3 (g := (mkF m 54 #[.val (.ref r0), .val (.long (2 : Int64)), .second, .val (.long (((2 : Int32).toInt64) + (2 : Int64))), .second, .unset, .unset] [(.long ((((2 : Int32).toInt64) + (2 : Int64)) + ((((2 : Int32).toInt64) + (2 : Int64)) / (8 : Int64)))), (.long ((2 : Int64) * ((3 : Int32).toInt64)))])) rfl (by rw [hml]; rfl) (argsL := [(.long ((2 : Int64) * ((3 : Int32).toInt64))), (.long ((((2 : Int32).toInt64) + (2 : Int64)) + ((((2 : Int32).toInt64) + (2 : Int64)) / (8 : Int64))))]) (rest := []) rfl (lenOf pd0 rfl) rfl (by show 2 * 0 + _ ≤ _; exact Nat.le_of_eq rfl) (hb hby dg23_54) (by decide) (by decide)
  have N4 := Fr.app N0 M4
  refine own_go st4 ?_
  show own_Fin p.tables e below _ (T4.setTop (mkF m 57 #[.val (.ref r0), .val (.long (2 : Int64)), .second, .val (.long (((2 : Int32).toInt64) + (2 : Int64))), .second, .unset, .unset] [(.long (f1 ((2 : Int64) * ((3 : Int32).toInt64)) ((((2 : Int32).toInt64) + (2 : Int64)) + ((((2 : Int32).toInt64) + (2 : Int64)) / (8 : Int64)))))]))
  refine own_go (fun _ k => XT.lstore X4.here hx rfl (hb hby dg23_57) rfl (l' := #[.val (.ref r0), .val (.long (2 : Int64)), .second, .val (.long (((2 : Int32).toInt64) + (2 : Int64))), .second, .val (.long (f1 ((2 : Int64) * ((3 : Int32).toInt64)) ((((2 : Int32).toInt64) + (2 : Int64)) + ((((2 : Int32).toInt64) + (2 : Int64)) / (8 : Int64))))), .second]) rfl k) ?_
  show own_Fin p.tables e below _ (T4.setTop (mkF m 59 #[.val (.ref r0), .val (.long (2 : Int64)), .second, .val (.long (((2 : Int32).toInt64) + (2 : Int64))), .second, .val (.long (f1 ((2 : Int64) * ((3 : Int32).toInt64)) ((((2 : Int32).toInt64) + (2 : Int64)) + ((((2 : Int32).toInt64) + (2 : Int64)) / (8 : Int64))))), .second] []))
  refine own_go (fun _ k => XS.aloadN X4.here hx rfl (hb hby dg23_59) rfl rfl k) ?_
  show own_Fin p.tables e below _ (T4.setTop (mkF m 60 #[.val (.ref r0), .val (.long (2 : Int64)), .second, .val (.long (((2 : Int32).toInt64) + (2 : Int64))), .second, .val (.long (f1 ((2 : Int64) * ((3 : Int32).toInt64)) ((((2 : Int32).toInt64) + (2 : Int64)) + ((((2 : Int32).toInt64) + (2 : Int64)) / (8 : Int64))))), .second] [(.ref r0)]))
  refine own_go (fun _ k => XS.aloadN X4.here hx rfl (hb hby dg23_60) rfl rfl k) ?_
  show own_Fin p.tables e below _ (T4.setTop (mkF m 61 #[.val (.ref r0), .val (.long (2 : Int64)), .second, .val (.long (((2 : Int32).toInt64) + (2 : Int64))), .second, .val (.long (f1 ((2 : Int64) * ((3 : Int32).toInt64)) ((((2 : Int32).toInt64) + (2 : Int64)) + ((((2 : Int32).toInt64) + (2 : Int64)) / (8 : Int64))))), .second] [(.ref r0), (.ref r0)]))
  obtain ⟨T5, X5, e5, st5⟩ := getF X4 hx hZ hown (host := "") (Or.inl (hw _ (List.mem_of_getElem? (i := 37) rfl))) Via.refl e4 F_b (g := (mkF m 61 #[.val (.ref r0), .val (.long (2 : Int64)), .second, .val (.long (((2 : Int32).toInt64) + (2 : Int64))), .second, .val (.long (f1 ((2 : Int64) * ((3 : Int32).toInt64)) ((((2 : Int32).toInt64) + (2 : Int64)) + ((((2 : Int32).toInt64) + (2 : Int64)) / (8 : Int64))))), .second] [(.ref r0), (.ref r0)])) rfl rfl (hb hby dg23_61)
  refine own_go st5 ?_
  show own_Fin p.tables e below _ (T5.setTop (mkF m 64 #[.val (.ref r0), .val (.long (2 : Int64)), .second, .val (.long (((2 : Int32).toInt64) + (2 : Int64))), .second, .val (.long (f1 ((2 : Int64) * ((3 : Int32).toInt64)) ((((2 : Int32).toInt64) + (2 : Int64)) + ((((2 : Int32).toInt64) + (2 : Int64)) / (8 : Int64))))), .second] [(.ref r5), (.ref r0)]))
  refine own_go (fun _ k => XT.lload X5.here hx rfl (hb hby dg23_64) rfl k) ?_
  show own_Fin p.tables e below _ (T5.setTop (mkF m 66 #[.val (.ref r0), .val (.long (2 : Int64)), .second, .val (.long (((2 : Int32).toInt64) + (2 : Int64))), .second, .val (.long (f1 ((2 : Int64) * ((3 : Int32).toInt64)) ((((2 : Int32).toInt64) + (2 : Int64)) + ((((2 : Int32).toInt64) + (2 : Int64)) / (8 : Int64))))), .second] [(.long (f1 ((2 : Int64) * ((3 : Int32).toInt64)) ((((2 : Int32).toInt64) + (2 : Int64)) + ((((2 : Int32).toInt64) + (2 : Int64)) / (8 : Int64))))), (.ref r5), (.ref r0)]))
  refine own_go (fun _ k => X5.ldc2J hx hown (mvT hZ (hw _ (List.mem_of_getElem? (i := 50) rfl))) rfl (hb hby dg23_66) k) ?_
  show own_Fin p.tables e below _ (T5.setTop (mkF m 69 #[.val (.ref r0), .val (.long (2 : Int64)), .second, .val (.long (((2 : Int32).toInt64) + (2 : Int64))), .second, .val (.long (f1 ((2 : Int64) * ((3 : Int32).toInt64)) ((((2 : Int32).toInt64) + (2 : Int64)) + ((((2 : Int32).toInt64) + (2 : Int64)) / (8 : Int64))))), .second] [(.long (2147483639 : Int64)), (.long (f1 ((2 : Int64) * ((3 : Int32).toInt64)) ((((2 : Int32).toInt64) + (2 : Int64)) + ((((2 : Int32).toInt64) + (2 : Int64)) / (8 : Int64))))), (.ref r5), (.ref r0)]))
  obtain ⟨_, T6, L6, X6, ⟨rfl, M6, e6⟩, st6⟩ := own_callS X5 hx hZ hown (hw _ (List.mem_of_getElem? (i := 57) rfl)) (hw _ (List.mem_of_getElem? (i := 58) rfl)) (hw _ (List.mem_of_getElem? (i := 55) rfl)) (hw _ (List.mem_of_getElem? (i := 59) rfl)) (by decide) (W := 2) (rm2 l Z a0 hw [] (f1 ((2 : Int64) * ((3 : Int32).toInt64)) ((((2 : Int32).toInt64) + (2 : Int64)) + ((((2 : Int32).toInt64) + (2 : Int64)) / (8 : Int64)))) (2147483639 : Int64) h0 n0 (Nat.le_trans Z0 K0.1) ) (by decide) (by decide) e5 (g := (mkF m 69 #[.val (.ref r0), .val (.long (2 : Int64)), .second, .val (.long (((2 : Int32).toInt64) + (2 : Int64))), .second, .val (.long (f1 ((2 : Int64) * ((3 : Int32).toInt64)) ((((2 : Int32).toInt64) + (2 : Int64)) + ((((2 : Int32).toInt64) + (2 : Int64)) / (8 : Int64))))), .second] [(.long (2147483639 : Int64)), (.long (f1 ((2 : Int64) * ((3 : Int32).toInt64)) ((((2 : Int32).toInt64) + (2 : Int64)) + ((((2 : Int32).toInt64) + (2 : Int64)) / (8 : Int64))))), (.ref r5), (.ref r0)])) rfl (by rw [hml]; rfl) (argsL := [(.long (f1 ((2 : Int64) * ((3 : Int32).toInt64)) ((((2 : Int32).toInt64) + (2 : Int64)) + ((((2 : Int32).toInt64) + (2 : Int64)) / (8 : Int64))))), (.long (2147483639 : Int64))]) (rest := [(.ref r5), (.ref r0)]) rfl (lenOf pd0 rfl) rfl (by show 2 * 0 + _ ≤ _; exact Nat.le_of_eq rfl) (hb hby dg23_69) (by decide) (by decide)
  have N6 := Fr.app N4 M6
  refine own_go st6 ?_
  show own_Fin p.tables e below _ (T6.setTop (mkF m 72 #[.val (.ref r0), .val (.long (2 : Int64)), .second, .val (.long (((2 : Int32).toInt64) + (2 : Int64))), .second, .val (.long (f1 ((2 : Int64) * ((3 : Int32).toInt64)) ((((2 : Int32).toInt64) + (2 : Int64)) + ((((2 : Int32).toInt64) + (2 : Int64)) / (8 : Int64))))), .second] [(.long (f2 (f1 ((2 : Int64) * ((3 : Int32).toInt64)) ((((2 : Int32).toInt64) + (2 : Int64)) + ((((2 : Int32).toInt64) + (2 : Int64)) / (8 : Int64)))) (2147483639 : Int64))), (.ref r5), (.ref r0)]))
  refine own_go (fun _ k => XT.l2i X6.here hx rfl (hb hby dg23_72) rfl k) ?_
  show own_Fin p.tables e below _ (T6.setTop (mkF m 73 #[.val (.ref r0), .val (.long (2 : Int64)), .second, .val (.long (((2 : Int32).toInt64) + (2 : Int64))), .second, .val (.long (f1 ((2 : Int64) * ((3 : Int32).toInt64)) ((((2 : Int32).toInt64) + (2 : Int64)) + ((((2 : Int32).toInt64) + (2 : Int64)) / (8 : Int64))))), .second] [(.int ((f2 (f1 ((2 : Int64) * ((3 : Int32).toInt64)) ((((2 : Int32).toInt64) + (2 : Int64)) + ((((2 : Int32).toInt64) + (2 : Int64)) / (8 : Int64)))) (2147483639 : Int64)).toInt32)), (.ref r5), (.ref r0)]))
  rw [show ((f2 (f1 ((2 : Int64) * ((3 : Int32).toInt64)) ((((2 : Int32).toInt64) + (2 : Int64)) + ((((2 : Int32).toInt64) + (2 : Int64)) / (8 : Int64)))) (2147483639 : Int64)).toInt32) = (6 : Int32) from by decide +kernel]
  show own_Fin p.tables e below _ (T6.setTop (mkF m 73 #[.val (.ref r0), .val (.long (2 : Int64)), .second, .val (.long (((2 : Int32).toInt64) + (2 : Int64))), .second, .val (.long (f1 ((2 : Int64) * ((3 : Int32).toInt64)) ((((2 : Int32).toInt64) + (2 : Int64)) + ((((2 : Int32).toInt64) + (2 : Int64)) / (8 : Int64))))), .second] [(.int (6 : Int32)), (.ref r5), (.ref r0)]))
  obtain ⟨_, T7, L7, X7, ⟨b7, kb7, rfl, M7, KK7, q7, V7⟩, st7⟩ := own_callS X6 hx hZ hown (hw _ (List.mem_of_getElem? (i := 60) rfl)) (hw _ (List.mem_of_getElem? (i := 61) rfl)) (hw _ (List.mem_of_getElem? (i := 62) rfl)) (hw _ (List.mem_of_getElem? (i := 63) rfl)) (by decide) (W := 1) (rmc36 l Z a0 hw [] r5 h0 n0 (Nat.le_trans Z0 K0.1) k5 w0 w1 A_t) (by decide) (by decide) e6 (g := (mkF m 73 #[.val (.ref r0), .val (.long (2 : Int64)), .second, .val (.long (((2 : Int32).toInt64) + (2 : Int64))), .second, .val (.long (f1 ((2 : Int64) * ((3 : Int32).toInt64)) ((((2 : Int32).toInt64) + (2 : Int64)) + ((((2 : Int32).toInt64) + (2 : Int64)) / (8 : Int64))))), .second] [(.int (6 : Int32)), (.ref r5), (.ref r0)])) rfl (by rw [hml]; rfl) (argsL := [(.ref r5), (.int (6 : Int32))]) (rest := [(.ref r0)]) rfl (lenOf pd2 rfl) rfl (by show 2 * 0 + _ ≤ _; exact Nat.le_of_eq rfl) (hb hby dg23_73) (by decide) (by decide)
  have N7 := Fr.app N6 M7
  have ne_r0_b7 : r0 ≠ b7 := own_lt_ne E_a.lt q7
  have ne_r5_b7 : r5 ≠ b7 := own_lt_ne A_t.lt q7
  have Er0_7 := E_a.keep KK7
  have Fr0_bytes_7 := F_b.keep KK7 nin0
  have Fr0_length_7 := F_l.keep KK7 nin0
  have Vr5_7 := A_t.keep KK7 nin0
  have K7 := K0.trans KK7 all0
  refine own_go st7 ?_
  show own_Fin p.tables e below _ (T7.setTop (mkF m 76 #[.val (.ref r0), .val (.long (2 : Int64)), .second, .val (.long (((2 : Int32).toInt64) + (2 : Int64))), .second, .val (.long (f1 ((2 : Int64) * ((3 : Int32).toInt64)) ((((2 : Int32).toInt64) + (2 : Int64)) + ((((2 : Int32).toInt64) + (2 : Int64)) / (8 : Int64))))), .second] [(.ref b7), (.ref r0)]))
  obtain ⟨T8, h8, X8, e8, W8, st8⟩ := putF X7 hx hZ hown (host := "") (Or.inl (hw _ (List.mem_of_getElem? (i := 37) rfl))) Via.refl rfl Fr0_bytes_7 Er0_7 (Or.inl (hw _ (List.mem_of_getElem? (i := 38) rfl))) (hw _ (List.mem_of_getElem? (i := 31) rfl)) (ty := (.array .byte)) (by decide) rfl rfl (g := (mkF m 76 #[.val (.ref r0), .val (.long (2 : Int64)), .second, .val (.long (((2 : Int32).toInt64) + (2 : Int64))), .second, .val (.long (f1 ((2 : Int64) * ((3 : Int32).toInt64)) ((((2 : Int32).toInt64) + (2 : Int64)) + ((((2 : Int32).toInt64) + (2 : Int64)) / (8 : Int64))))), .second] [(.ref b7), (.ref r0)])) rfl rfl (hb hby dg23_76)
  have K8 := K7.wr W8 (Or.inl (List.mem_of_getElem? (i := 0) rfl))
  have N8 := Fr.snoc X8 N7 g_a
  have Er0_8 := Er0_7.wr W8
  have Fr0_bytes_8 := Fr0_bytes_7.same W8
  have Fr0_length_8 := Fr0_length_7.other W8 (Or.inr (slot_ne (Or.inl (hw _ (List.mem_of_getElem? (i := 49) rfl))) (Or.inl (hw _ (List.mem_of_getElem? (i := 38) rfl))) (by decide) (t := .int) (t' := (.array .byte)) (by decide) (by decide)))
  have Vr5_8 := Vr5_7.other W8 (Ne.symm (Exa.neArv E_a A_t (hw _ (List.mem_of_getElem? (i := 31) rfl))))
  have Vb7_8 := V7.other W8 (Ne.symm ne_r0_b7)
  refine own_go st8 ?_
  show own_Fin p.tables e below _ (T8.setTop (mkF m 79 #[.val (.ref r0), .val (.long (2 : Int64)), .second, .val (.long (((2 : Int32).toInt64) + (2 : Int64))), .second, .val (.long (f1 ((2 : Int64) * ((3 : Int32).toInt64)) ((((2 : Int32).toInt64) + (2 : Int64)) + ((((2 : Int32).toInt64) + (2 : Int64)) / (8 : Int64))))), .second] []))
  refine own_retV X8 hx hlk hret (hb hby dg23_79) ?_ (by decide) (by decide)
  show _ ∧ _ ∧ Keep h0 T8.heap _ ∧ _
  rw [e8]
  exact ⟨rfl, N8, K8, b7, kb7, Fr0_bytes_8, Fr0_length_8, (Nat.le_trans K0.1 q7), Vb7_8⟩
theorem di_0 : decode prog_16_method_1_code 0 = .ok (.aload_n 0, 1) := by decide +kernel
theorem di_1 : decode prog_16_method_1_code 1 = .ok (.invokespecial 1, 3) := by decide +kernel
theorem di_4 : decode prog_16_method_1_code 4 = .ok (.aload_n 0, 1) := by decide +kernel
theorem di_5 : decode prog_16_method_1_code 5 = .ok (.iload_n 1, 1) := by decide +kernel
theorem di_6 : decode prog_16_method_1_code 6 = .ok (.newarray .byte, 2) := by decide +kernel
theorem di_8 : decode prog_16_method_1_code 8 = .ok (.putfield 7, 3) := by decide +kernel
theorem di_11 : decode prog_16_method_1_code 11 = .ok (.return_, 1) := by decide +kernel
theorem pd4 : parseMethodDescriptor "(I)V" = some ⟨[.int], none⟩ := by decide +kernel
theorem efi (m : MethodId) (r0 : Addr) (i1 : Int32) : entryFrame m #[(.ref r0), (.int i1)] 2 = mkF m 0 #[.val (.ref r0), .val (.int i1)] [] := by first | (simp [entryFrame, mkF, argsToLocals, Value.category]; done) | rfl
set_option maxRecDepth 65536 in
set_option maxHeartbeats 40000000 in
theorem rmi (l : Launch) (Z : State) (a0 : Array Value) (hw : ∀ d ∈ tables_1, d.before a0 Z = true) (ws : List Jvm.Cond) (r0 : Addr) (i1 : Int32) (h0 : Heap) (n0 : Nat) (Z0 : n0 ≤ h0.size) (E_a : Exa Z h0 r0 "com/example/envelope/envelope/JsonOutput") (F_b : Fld Z h0 r0 "com/example/envelope/envelope/JsonOutput" "bytes" "[B" .null) (F_l : Fld Z h0 r0 "com/example/envelope/envelope/JsonOutput" "length" "I" (.int (0 : Int32))) (g_a : n0 ≤ r0) (hn : ¬ i1 < 0) (hc : i1.toNatClampNeg ≤ 7) :
    own_Met l (⟨"com/example/envelope/envelope/JsonOutput", "<init>", "(I)V"⟩ : MethodName) prog_16_method_1_code 2 none ({ frames := 1, cells := 1, slots := 7, locals := 12 } : Room) ws #[(.ref r0), (.int i1)] Z h0 1 7 (fun v h L => v = none ∧ Fr n0 L ∧ Keep h0 h [r0] ∧ ∃ b k, Fld Z h r0 "com/example/envelope/envelope/JsonOutput" "bytes" "[B" (.ref b) ∧ Fld Z h r0 "com/example/envelope/envelope/JsonOutput" "length" "I" (.int (0 : Int32)) ∧ h0.size ≤ b ∧ Arv Z h b k .byte i1 [] (.int (0 : Int32))) := by
  refine own_met (plainFor_of_name pn1) ?_
  intro p e s m below meth c s₁ hx hby hml hown hnm hret hlk hZ e0 X0
  have hml : c.maxLocals = 2 := hml
  have N0 := Fr.nil n0
  have K0 := Keep.refl h0 [r0]
  refine own_go (fun _ k => castTop (efi m r0 i1) k) ?_
  show own_Fin p.tables e below _ (s₁.setTop (mkF m 0 #[.val (.ref r0), .val (.int i1)] []))
  refine own_go (fun _ k => XS.aloadN X0.here hx rfl (hb hby di_0) rfl rfl k) ?_
  show own_Fin p.tables e below _ (s₁.setTop (mkF m 1 #[.val (.ref r0), .val (.int i1)] [(.ref r0)]))
  obtain ⟨T1, X1, e1, st1⟩ := initO X0 hx hZ hown (hw _ (List.mem_of_getElem? (i := 36) rfl)) (hw _ (List.mem_of_getElem? (i := 12) rfl)) (hw _ (List.mem_of_getElem? (i := 13) rfl)) e0 (g := (mkF m 1 #[.val (.ref r0), .val (.int i1)] [(.ref r0)])) rfl (by rw [hml]; rfl) rfl (hb hby di_1) (by decide) (W := 0) (by show 2 * 0 + _ ≤ _; exact Nat.le_of_eq rfl) (by decide)
  refine own_go st1 ?_
  show own_Fin p.tables e below _ (T1.setTop (mkF m 4 #[.val (.ref r0), .val (.int i1)] []))
  refine own_go (fun _ k => XS.aloadN X1.here hx rfl (hb hby di_4) rfl rfl k) ?_
  show own_Fin p.tables e below _ (T1.setTop (mkF m 5 #[.val (.ref r0), .val (.int i1)] [(.ref r0)]))
  refine own_go (fun _ k => XS.iloadN X1.here hx rfl (hb hby di_5) rfl k) ?_
  show own_Fin p.tables e below _ (T1.setTop (mkF m 6 #[.val (.ref r0), .val (.int i1)] [(.int i1), (.ref r0)]))
  obtain ⟨T2, h2, k2, X2, e2, E2, A2, st2⟩ := newP X1 hx hZ (hw _ (List.mem_of_getElem? (i := 19) rfl)) e1 (g := (mkF m 6 #[.val (.ref r0), .val (.int i1)] [(.int i1), (.ref r0)])) rfl (hb hby di_6) rfl hn (cap := 7) hc (by decide) (by decide) (by decide)
  obtain ⟨a2, g2⟩ : ∃ z, z = h0.size := ⟨_, rfl⟩
  rw [← g2] at A2 st2
  have q2 : h0.size ≤ a2 := Nat.le_trans K0.1 (Nat.le_of_eq g2.symm)
  have z2 : n0 ≤ a2 := Nat.le_trans Z0 q2
  have ne_r0_a2 : r0 ≠ a2 := fun q => absurd (q ▸ E_a.lt) (by rw [g2]; exact Nat.lt_irrefl _)
  have Er0_2 := E_a.ext E2
  have Fr0_bytes_2 := F_b.ext E2
  have Fr0_length_2 := F_l.ext E2
  have K2 := K0.ext E2
  have Va2 : Arv Z h2 a2 k2 .byte i1 [] (.int (0 : Int32)) := Arv.new A2 hn
  refine own_go st2 ?_
  show own_Fin p.tables e below _ (T2.setTop (mkF m 8 #[.val (.ref r0), .val (.int i1)] [(.ref a2), (.ref r0)]))
  obtain ⟨T3, h3, X3, e3, W3, st3⟩ := putF X2 hx hZ hown (host := "") (Or.inl (hw _ (List.mem_of_getElem? (i := 37) rfl))) Via.refl e2 Fr0_bytes_2 Er0_2 (Or.inl (hw _ (List.mem_of_getElem? (i := 38) rfl))) (hw _ (List.mem_of_getElem? (i := 31) rfl)) (ty := (.array .byte)) (by decide) rfl rfl (g := (mkF m 8 #[.val (.ref r0), .val (.int i1)] [(.ref a2), (.ref r0)])) rfl rfl (hb hby di_8)
  have K3 := K2.wr W3 (Or.inl (List.mem_of_getElem? (i := 0) rfl))
  have N3 := Fr.snoc X3 N0 g_a
  have Er0_3 := Er0_2.wr W3
  have Fr0_bytes_3 := Fr0_bytes_2.same W3
  have Fr0_length_3 := Fr0_length_2.other W3 (Or.inr (slot_ne (Or.inl (hw _ (List.mem_of_getElem? (i := 49) rfl))) (Or.inl (hw _ (List.mem_of_getElem? (i := 38) rfl))) (by decide) (t := .int) (t' := (.array .byte)) (by decide) (by decide)))
  have Va2_3 := Va2.other W3 (Ne.symm ne_r0_a2)
  refine own_go st3 ?_
  show own_Fin p.tables e below _ (T3.setTop (mkF m 11 #[.val (.ref r0), .val (.int i1)] []))
  refine own_retV X3 hx hlk hret (hb hby di_11) ?_ (by decide) (by decide)
  show _ ∧ _ ∧ Keep h0 T3.heap _ ∧ _
  rw [e3]
  exact ⟨rfl, N3, K3, a2, k2, Fr0_bytes_3, Fr0_length_3, q2, Va2_3⟩
theorem dan0_0 : decode prog_16_method_9_code 0 = .ok (.aload_n 0, 1) := by decide +kernel
theorem dan0_1 : decode prog_16_method_9_code 1 = .ok (.lconst 1, 1) := by decide +kernel
theorem dan0_2 : decode prog_16_method_9_code 2 = .ok (.invokevirtual 94, 3) := by decide +kernel
theorem dan0_5 : decode prog_16_method_9_code 5 = .ok (.aload_n 0, 1) := by decide +kernel
theorem dan0_6 : decode prog_16_method_9_code 6 = .ok (.getfield 7, 3) := by decide +kernel
theorem dan0_9 : decode prog_16_method_9_code 9 = .ok (.aload_n 0, 1) := by decide +kernel
theorem dan0_10 : decode prog_16_method_9_code 10 = .ok (.dup, 1) := by decide +kernel
theorem dan0_11 : decode prog_16_method_9_code 11 = .ok (.getfield 98, 3) := by decide +kernel
theorem dan0_14 : decode prog_16_method_9_code 14 = .ok (.dup_x1, 1) := by decide +kernel
theorem dan0_15 : decode prog_16_method_9_code 15 = .ok (.iconst 1, 1) := by decide +kernel
theorem dan0_16 : decode prog_16_method_9_code 16 = .ok (.iadd, 1) := by decide +kernel
theorem dan0_17 : decode prog_16_method_9_code 17 = .ok (.putfield 98, 3) := by decide +kernel
theorem dan0_20 : decode prog_16_method_9_code 20 = .ok (.iload_n 1, 1) := by decide +kernel
theorem dan0_21 : decode prog_16_method_9_code 21 = .ok (.i2b, 1) := by decide +kernel
theorem dan0_22 : decode prog_16_method_9_code 22 = .ok (.bastore, 1) := by decide +kernel
theorem dan0_23 : decode prog_16_method_9_code 23 = .ok (.return_, 1) := by decide +kernel
theorem pd5 : parseMethodDescriptor "(C)V" = some ⟨[.char], none⟩ := by decide +kernel
theorem efan0 (m : MethodId) (r0 : Addr) (i1 : Int32) : entryFrame m #[(.ref r0), (.int i1)] 2 = mkF m 0 #[.val (.ref r0), .val (.int i1)] [] := by first | (simp [entryFrame, mkF, argsToLocals, Value.category]; done) | rfl
set_option maxRecDepth 65536 in
set_option maxHeartbeats 40000000 in
theorem rman0 (l : Launch) (Z : State) (a0 : Array Value) (hw : ∀ d ∈ tables_1, d.before a0 Z = true) (ws : List Jvm.Cond) (r0 : Addr) (i1 : Int32) (h0 : Heap) (n0 : Nat) (Z0 : n0 ≤ h0.size) (r5 : Addr) (k5 : ClassId) (z5 : Int32) (E_a : Exa Z h0 r0 "com/example/envelope/envelope/JsonOutput") (F_b : Fld Z h0 r0 "com/example/envelope/envelope/JsonOutput" "bytes" "[B" (.ref r5)) (F_l : Fld Z h0 r0 "com/example/envelope/envelope/JsonOutput" "length" "I" (.int (0 : Int32))) (A_t : Arv Z h0 r5 k5 .byte z5 [] (.int (0 : Int32))) (g_a : n0 ≤ r0) (g_t : n0 ≤ r5) (hq5 : ¬ z5 < (1 : Int32) ∧ z5 < 8) :
    own_Met l (⟨"com/example/envelope/envelope/JsonOutput", "append", "(C)V"⟩ : MethodName) prog_16_method_9_code 2 none ({ frames := 1, cells := 0, slots := 0, locals := 18 } : Room) ws #[(.ref r0), (.int i1)] Z h0 0 0 (fun v h L => v = none ∧ Fr n0 L ∧ Keep h0 h [r0, r5] ∧ Fld Z h r0 "com/example/envelope/envelope/JsonOutput" "bytes" "[B" (.ref r5) ∧ Fld Z h r0 "com/example/envelope/envelope/JsonOutput" "length" "I" (.int (1 : Int32)) ∧ Arv Z h r5 k5 .byte z5 [(.int (nar .byte (i1.toInt8.toInt32)))] (.int (0 : Int32))) := by
  refine own_met (plainFor_of_name pn1) ?_
  intro p e s m below meth c s₁ hx hby hml hown hnm hret hlk hZ e0 X0
  have hml : c.maxLocals = 2 := hml
  have N0 := Fr.nil n0
  have K0 := Keep.refl h0 [r0, r5]
  refine own_go (fun _ k => castTop (efan0 m r0 i1) k) ?_
  show own_Fin p.tables e below _ (s₁.setTop (mkF m 0 #[.val (.ref r0), .val (.int i1)] []))
  refine own_go (fun _ k => XS.aloadN X0.here hx rfl (hb hby dan0_0) rfl rfl k) ?_
  show own_Fin p.tables e below _ (s₁.setTop (mkF m 1 #[.val (.ref r0), .val (.int i1)] [(.ref r0)]))
  refine own_go (fun _ k => XT.lconstV X0.here hx rfl (1 : Int64) (hb hby dan0_1) (by decide) k) ?_
  show own_Fin p.tables e below _ (s₁.setTop (mkF m 2 #[.val (.ref r0), .val (.int i1)] [(.long (1 : Int64)), (.ref r0)]))
  obtain ⟨_, T1, L1, X1, ⟨rfl, M1, e1⟩, st1⟩ := own_callP X0 hx hZ hown (hw _ (List.mem_of_getElem? (i := 44) rfl)) (hw _ (List.mem_of_getElem? (i := 45) rfl)) (hw _ (List.mem_of_getElem? (i := 46) rfl)) (hw _ (List.mem_of_getElem? (i := 31) rfl)) (hw _ (List.mem_of_getElem? (i := 32) rfl)) (hw _ (List.mem_of_getElem? (i := 47) rfl)) (by decide) (W := 0) (rmen l Z a0 hw [] r0 (1 : Int64) h0 n0 (Nat.le_trans Z0 K0.1) r5 k5 (0 : Int32) z5 [] (.int (0 : Int32)) E_a F_b F_l A_t (own_ng01 hq5)) (by decide) (by decide) e0 E_a (g := (mkF m 2 #[.val (.ref r0), .val (.int i1)] [(.long (1 : Int64)), (.ref r0)])) rfl (by rw [hml]; rfl) (argsL := [(.long (1 : Int64))]) (rest := []) rfl (lenOf pd3 rfl) rfl (by show 2 * 0 + _ ≤ _; exact Nat.le_of_eq rfl) (hb hby dan0_2) (by decide) (by decide)
  have N1 := Fr.app N0 M1
  refine own_go st1 ?_
  show own_Fin p.tables e below _ (T1.setTop (mkF m 5 #[.val (.ref r0), .val (.int i1)] []))
  refine own_go (fun _ k => XS.aloadN X1.here hx rfl (hb hby dan0_5) rfl rfl k) ?_
  show own_Fin p.tables e below _ (T1.setTop (mkF m 6 #[.val (.ref r0), .val (.int i1)] [(.ref r0)]))
  obtain ⟨T2, X2, e2, st2⟩ := getF X1 hx hZ hown (host := "") (Or.inl (hw _ (List.mem_of_getElem? (i := 37) rfl))) Via.refl e1 F_b (g := (mkF m 6 #[.val (.ref r0), .val (.int i1)] [(.ref r0)])) rfl rfl (hb hby dan0_6)
  refine own_go st2 ?_
  show own_Fin p.tables e below _ (T2.setTop (mkF m 9 #[.val (.ref r0), .val (.int i1)] [(.ref r5)]))
  refine own_go (fun _ k => XS.aloadN X2.here hx rfl (hb hby dan0_9) rfl rfl k) ?_
  show own_Fin p.tables e below _ (T2.setTop (mkF m 10 #[.val (.ref r0), .val (.int i1)] [(.ref r0), (.ref r5)]))
  refine own_go (fun _ k => XS.dup X2.here hx rfl (hb hby dan0_10) rfl rfl k) ?_
  show own_Fin p.tables e below _ (T2.setTop (mkF m 11 #[.val (.ref r0), .val (.int i1)] [(.ref r0), (.ref r0), (.ref r5)]))
  obtain ⟨T3, X3, e3, st3⟩ := getF X2 hx hZ hown (host := "") (Or.inl (hw _ (List.mem_of_getElem? (i := 48) rfl))) Via.refl e2 F_l (g := (mkF m 11 #[.val (.ref r0), .val (.int i1)] [(.ref r0), (.ref r0), (.ref r5)])) rfl rfl (hb hby dan0_11)
  refine own_go st3 ?_
  show own_Fin p.tables e below _ (T3.setTop (mkF m 14 #[.val (.ref r0), .val (.int i1)] [(.int (0 : Int32)), (.ref r0), (.ref r5)]))
  refine own_go (fun _ k => XT.dupX1 X3.here hx rfl (hb hby dan0_14) rfl rfl rfl k) ?_
  show own_Fin p.tables e below _ (T3.setTop (mkF m 15 #[.val (.ref r0), .val (.int i1)] [(.int (0 : Int32)), (.ref r0), (.int (0 : Int32)), (.ref r5)]))
  refine own_go (fun _ k => XT.iconstV X3.here hx rfl (1 : Int32) (hb hby dan0_15) (by decide) k) ?_
  show own_Fin p.tables e below _ (T3.setTop (mkF m 16 #[.val (.ref r0), .val (.int i1)] [(.int (1 : Int32)), (.int (0 : Int32)), (.ref r0), (.int (0 : Int32)), (.ref r5)]))
  refine own_go (fun _ k => XS.iadd X3.here hx rfl (hb hby dan0_16) rfl k) ?_
  show own_Fin p.tables e below _ (T3.setTop (mkF m 17 #[.val (.ref r0), .val (.int i1)] [(.int ((0 : Int32) + (1 : Int32))), (.ref r0), (.int (0 : Int32)), (.ref r5)]))
  rw [show ((0 : Int32) + (1 : Int32)) = (1 : Int32) from by decide +kernel]
  show own_Fin p.tables e below _ (T3.setTop (mkF m 17 #[.val (.ref r0), .val (.int i1)] [(.int (1 : Int32)), (.ref r0), (.int (0 : Int32)), (.ref r5)]))
  obtain ⟨T4, h4, X4, e4, W4, st4⟩ := putF X3 hx hZ hown (host := "") (Or.inl (hw _ (List.mem_of_getElem? (i := 48) rfl))) Via.refl e3 F_l E_a (Or.inl (hw _ (List.mem_of_getElem? (i := 49) rfl))) (hw _ (List.mem_of_getElem? (i := 31) rfl)) (ty := .int) (by decide) rfl rfl (g := (mkF m 17 #[.val (.ref r0), .val (.int i1)] [(.int (1 : Int32)), (.ref r0), (.int (0 : Int32)), (.ref r5)])) rfl rfl (hb hby dan0_17)
  have K4 := K0.wr W4 (Or.inl (List.mem_of_getElem? (i := 0) rfl))
  have N4 := Fr.snoc X4 N1 g_a
  have Er0_4 := E_a.wr W4
  have Fr0_bytes_4 := F_b.other W4 (Or.inr (slot_ne (Or.inl (hw _ (List.mem_of_getElem? (i := 38) rfl))) (Or.inl (hw _ (List.mem_of_getElem? (i := 49) rfl))) (by decide) (t := (.array .byte)) (t' := .int) (by decide) (by decide)))
  have Fr0_length_4 := F_l.same W4
  have Vr5_4 := A_t.other W4 (Ne.symm (Exa.neArv E_a A_t (hw _ (List.mem_of_getElem? (i := 31) rfl))))
  refine own_go st4 ?_
  show own_Fin p.tables e below _ (T4.setTop (mkF m 20 #[.val (.ref r0), .val (.int i1)] [(.int (0 : Int32)), (.ref r5)]))
  refine own_go (fun _ k => XS.iloadN X4.here hx rfl (hb hby dan0_20) rfl k) ?_
  show own_Fin p.tables e below _ (T4.setTop (mkF m 21 #[.val (.ref r0), .val (.int i1)] [(.int i1), (.int (0 : Int32)), (.ref r5)]))
  refine own_go (fun _ k => XT.i2b X4.here hx rfl (hb hby dan0_21) rfl k) ?_
  show own_Fin p.tables e below _ (T4.setTop (mkF m 22 #[.val (.ref r0), .val (.int i1)] [(.int (i1.toInt8.toInt32)), (.int (0 : Int32)), (.ref r5)]))
  have P5 : Arv Z h4 r5 k5 .byte z5 [(.int (0 : Int32))] (.int (0 : Int32)) := Vr5_4.pad (pad_rep [] (.int (0 : Int32)) 1)
  obtain ⟨c5, Ar5, q5, S5, M5, H5, U5⟩ := id P5
  obtain ⟨T5, h5, X5, e5, W5, st5⟩ := stB X4 hx hZ e4 Ar5 (j := (0 : Int32)) (inb_of S5 ⟨(by decide), (own_lt0 hq5)⟩) (g := (mkF m 22 #[.val (.ref r0), .val (.int i1)] [(.int (i1.toInt8.toInt32)), (.int (0 : Int32)), (.ref r5)])) rfl rfl (hb hby dan0_22)
  have K5 := K4.wr W5 (Or.inl (List.mem_of_getElem? (i := 1) rfl))
  have N5 := Fr.snoc X5 N4 g_t
  have Er0_5 := Er0_4.wr W5
  have Fr0_bytes_5 := Fr0_bytes_4.other W5 (Or.inl (Exa.neArv E_a A_t (hw _ (List.mem_of_getElem? (i := 31) rfl))))
  have Fr0_length_5 := Fr0_length_4.other W5 (Or.inl (Exa.neArv E_a A_t (hw _ (List.mem_of_getElem? (i := 31) rfl))))
  have Vr5_5 : Arv Z h5 r5 k5 .byte z5 [(.int (nar .byte (i1.toInt8.toInt32)))] (.int (0 : Int32)) := Arv.set Ar5 q5 S5 M5 H5 U5 (StrChars.fits_lo8 _) W5 0 rfl (Nat.le_of_ble_eq_true rfl)
  refine own_go st5 ?_
  show own_Fin p.tables e below _ (T5.setTop (mkF m 23 #[.val (.ref r0), .val (.int i1)] []))
  refine own_retV X5 hx hlk hret (hb hby dan0_23) ?_ (by decide) (by decide)
  show _ ∧ _ ∧ Keep h0 T5.heap _ ∧ _
  rw [e5]
  exact ⟨rfl, N5, K5, Fr0_bytes_5, Fr0_length_5, Vr5_5⟩
theorem dag0_0 : decode prog_16_method_9_code 0 = .ok (.aload_n 0, 1) := by decide +kernel
theorem dag0_1 : decode prog_16_method_9_code 1 = .ok (.lconst 1, 1) := by decide +kernel
theorem dag0_2 : decode prog_16_method_9_code 2 = .ok (.invokevirtual 94, 3) := by decide +kernel
theorem dag0_5 : decode prog_16_method_9_code 5 = .ok (.aload_n 0, 1) := by decide +kernel
theorem dag0_6 : decode prog_16_method_9_code 6 = .ok (.getfield 7, 3) := by decide +kernel
theorem dag0_9 : decode prog_16_method_9_code 9 = .ok (.aload_n 0, 1) := by decide +kernel
theorem dag0_10 : decode prog_16_method_9_code 10 = .ok (.dup, 1) := by decide +kernel
theorem dag0_11 : decode prog_16_method_9_code 11 = .ok (.getfield 98, 3) := by decide +kernel
theorem dag0_14 : decode prog_16_method_9_code 14 = .ok (.dup_x1, 1) := by decide +kernel
theorem dag0_15 : decode prog_16_method_9_code 15 = .ok (.iconst 1, 1) := by decide +kernel
theorem dag0_16 : decode prog_16_method_9_code 16 = .ok (.iadd, 1) := by decide +kernel
theorem dag0_17 : decode prog_16_method_9_code 17 = .ok (.putfield 98, 3) := by decide +kernel
theorem dag0_20 : decode prog_16_method_9_code 20 = .ok (.iload_n 1, 1) := by decide +kernel
theorem dag0_21 : decode prog_16_method_9_code 21 = .ok (.i2b, 1) := by decide +kernel
theorem dag0_22 : decode prog_16_method_9_code 22 = .ok (.bastore, 1) := by decide +kernel
theorem dag0_23 : decode prog_16_method_9_code 23 = .ok (.return_, 1) := by decide +kernel
theorem efag0 (m : MethodId) (r0 : Addr) (i1 : Int32) : entryFrame m #[(.ref r0), (.int i1)] 2 = mkF m 0 #[.val (.ref r0), .val (.int i1)] [] := by first | (simp [entryFrame, mkF, argsToLocals, Value.category]; done) | rfl
set_option maxRecDepth 65536 in
set_option maxHeartbeats 40000000 in
theorem rmag0 (l : Launch) (Z : State) (a0 : Array Value) (hw : ∀ d ∈ tables_1, d.before a0 Z = true) (ws : List Jvm.Cond) (r0 : Addr) (i1 : Int32) (h0 : Heap) (n0 : Nat) (Z0 : n0 ≤ h0.size) (r5 : Addr) (k5 : ClassId) (E_a : Exa Z h0 r0 "com/example/envelope/envelope/JsonOutput") (F_b : Fld Z h0 r0 "com/example/envelope/envelope/JsonOutput" "bytes" "[B" (.ref r5)) (F_l : Fld Z h0 r0 "com/example/envelope/envelope/JsonOutput" "length" "I" (.int (0 : Int32))) (A_t : Arv Z h0 r5 k5 .byte (0 : Int32) [] (.int (0 : Int32))) (g_a : n0 ≤ r0) (g_t : n0 ≤ r5) :
    own_Met l (⟨"com/example/envelope/envelope/JsonOutput", "append", "(C)V"⟩ : MethodName) prog_16_method_9_code 2 none ({ frames := 3, cells := 1, slots := 1, locals := 60 } : Room) ws #[(.ref r0), (.int i1)] Z h0 1 1 (fun v h L => v = none ∧ Fr n0 L ∧ Keep h0 h [r0] ∧ ∃ b k, Fld Z h r0 "com/example/envelope/envelope/JsonOutput" "bytes" "[B" (.ref b) ∧ Fld Z h r0 "com/example/envelope/envelope/JsonOutput" "length" "I" (.int (1 : Int32)) ∧ h0.size ≤ b ∧ Arv Z h b k .byte (1 : Int32) [(.int (nar .byte (i1.toInt8.toInt32)))] (.int (0 : Int32))) := by
  refine own_met (plainFor_of_name pn1) ?_
  intro p e s m below meth c s₁ hx hby hml hown hnm hret hlk hZ e0 X0
  have hml : c.maxLocals = 2 := hml
  have N0 := Fr.nil n0
  have K0 := Keep.refl h0 [r0]
  refine own_go (fun _ k => castTop (efag0 m r0 i1) k) ?_
  show own_Fin p.tables e below _ (s₁.setTop (mkF m 0 #[.val (.ref r0), .val (.int i1)] []))
  refine own_go (fun _ k => XS.aloadN X0.here hx rfl (hb hby dag0_0) rfl rfl k) ?_
  show own_Fin p.tables e below _ (s₁.setTop (mkF m 1 #[.val (.ref r0), .val (.int i1)] [(.ref r0)]))
  refine own_go (fun _ k => XT.lconstV X0.here hx rfl (1 : Int64) (hb hby dag0_1) (by decide) k) ?_
  show own_Fin p.tables e below _ (s₁.setTop (mkF m 2 #[.val (.ref r0), .val (.int i1)] [(.long (1 : Int64)), (.ref r0)]))
  obtain ⟨_, T1, L1, X1, ⟨rfl, M1, KK1, b1, kb1, Gb1, Gl1, q1, Ga1⟩, st1⟩ := own_callP X0 hx hZ hown (hw _ (List.mem_of_getElem? (i := 44) rfl)) (hw _ (List.mem_of_getElem? (i := 45) rfl)) (hw _ (List.mem_of_getElem? (i := 46) rfl)) (hw _ (List.mem_of_getElem? (i := 31) rfl)) (hw _ (List.mem_of_getElem? (i := 32) rfl)) (hw _ (List.mem_of_getElem? (i := 47) rfl)) (by decide) (W := 0) (rmg00 l Z a0 hw [] r0 h0 n0 (Nat.le_trans Z0 K0.1) r5 k5   E_a F_b F_l A_t g_a g_t) (by decide) (by decide) e0 E_a (g := (mkF m 2 #[.val (.ref r0), .val (.int i1)] [(.long (1 : Int64)), (.ref r0)])) rfl (by rw [hml]; rfl) (argsL := [(.long (1 : Int64))]) (rest := []) rfl (lenOf pd3 rfl) rfl (by show 2 * 0 + _ ≤ _; exact Nat.le_of_eq rfl) (hb hby dag0_2) (by decide) (by decide)
  have N1 := Fr.app N0 M1
  have ne_r0_b1 : r0 ≠ b1 := own_lt_ne E_a.lt q1
  have ne_r5_b1 : r5 ≠ b1 := own_lt_ne A_t.lt q1
  have Er0_1 := E_a.keep KK1
  have Vr5_1 := A_t.keep KK1 (ninS (Ne.symm (Exa.neArv E_a A_t (hw _ (List.mem_of_getElem? (i := 31) rfl)))) nin0)
  have K1 := K0.trans KK1 (allS (Or.inl (List.mem_of_getElem? (i := 0) rfl)) all0)
  refine own_go st1 ?_
  show own_Fin p.tables e below _ (T1.setTop (mkF m 5 #[.val (.ref r0), .val (.int i1)] []))
  refine own_go (fun _ k => XS.aloadN X1.here hx rfl (hb hby dag0_5) rfl rfl k) ?_
  show own_Fin p.tables e below _ (T1.setTop (mkF m 6 #[.val (.ref r0), .val (.int i1)] [(.ref r0)]))
  obtain ⟨T2, X2, e2, st2⟩ := getF X1 hx hZ hown (host := "") (Or.inl (hw _ (List.mem_of_getElem? (i := 37) rfl))) Via.refl rfl Gb1 (g := (mkF m 6 #[.val (.ref r0), .val (.int i1)] [(.ref r0)])) rfl rfl (hb hby dag0_6)
  refine own_go st2 ?_
  show own_Fin p.tables e below _ (T2.setTop (mkF m 9 #[.val (.ref r0), .val (.int i1)] [(.ref b1)]))
  refine own_go (fun _ k => XS.aloadN X2.here hx rfl (hb hby dag0_9) rfl rfl k) ?_
  show own_Fin p.tables e below _ (T2.setTop (mkF m 10 #[.val (.ref r0), .val (.int i1)] [(.ref r0), (.ref b1)]))
  refine own_go (fun _ k => XS.dup X2.here hx rfl (hb hby dag0_10) rfl rfl k) ?_
  show own_Fin p.tables e below _ (T2.setTop (mkF m 11 #[.val (.ref r0), .val (.int i1)] [(.ref r0), (.ref r0), (.ref b1)]))
  obtain ⟨T3, X3, e3, st3⟩ := getF X2 hx hZ hown (host := "") (Or.inl (hw _ (List.mem_of_getElem? (i := 48) rfl))) Via.refl e2 Gl1 (g := (mkF m 11 #[.val (.ref r0), .val (.int i1)] [(.ref r0), (.ref r0), (.ref b1)])) rfl rfl (hb hby dag0_11)
  refine own_go st3 ?_
  show own_Fin p.tables e below _ (T3.setTop (mkF m 14 #[.val (.ref r0), .val (.int i1)] [(.int (0 : Int32)), (.ref r0), (.ref b1)]))
  refine own_go (fun _ k => XT.dupX1 X3.here hx rfl (hb hby dag0_14) rfl rfl rfl k) ?_
  show own_Fin p.tables e below _ (T3.setTop (mkF m 15 #[.val (.ref r0), .val (.int i1)] [(.int (0 : Int32)), (.ref r0), (.int (0 : Int32)), (.ref b1)]))
  refine own_go (fun _ k => XT.iconstV X3.here hx rfl (1 : Int32) (hb hby dag0_15) (by decide) k) ?_
  show own_Fin p.tables e below _ (T3.setTop (mkF m 16 #[.val (.ref r0), .val (.int i1)] [(.int (1 : Int32)), (.int (0 : Int32)), (.ref r0), (.int (0 : Int32)), (.ref b1)]))
  refine own_go (fun _ k => XS.iadd X3.here hx rfl (hb hby dag0_16) rfl k) ?_
  show own_Fin p.tables e below _ (T3.setTop (mkF m 17 #[.val (.ref r0), .val (.int i1)] [(.int ((0 : Int32) + (1 : Int32))), (.ref r0), (.int (0 : Int32)), (.ref b1)]))
  rw [show ((0 : Int32) + (1 : Int32)) = (1 : Int32) from by decide +kernel]
  show own_Fin p.tables e below _ (T3.setTop (mkF m 17 #[.val (.ref r0), .val (.int i1)] [(.int (1 : Int32)), (.ref r0), (.int (0 : Int32)), (.ref b1)]))
  obtain ⟨T4, h4, X4, e4, W4, st4⟩ := putF X3 hx hZ hown (host := "") (Or.inl (hw _ (List.mem_of_getElem? (i := 48) rfl))) Via.refl e3 Gl1 Er0_1 (Or.inl (hw _ (List.mem_of_getElem? (i := 49) rfl))) (hw _ (List.mem_of_getElem? (i := 31) rfl)) (ty := .int) (by decide) rfl rfl (g := (mkF m 17 #[.val (.ref r0), .val (.int i1)] [(.int (1 : Int32)), (.ref r0), (.int (0 : Int32)), (.ref b1)])) rfl rfl (hb hby dag0_17)
  have K4 := K1.wr W4 (Or.inl (List.mem_of_getElem? (i := 0) rfl))
  have N4 := Fr.snoc X4 N1 g_a
  have Er0_4 := Er0_1.wr W4
  have Vr5_4 := Vr5_1.other W4 (Ne.symm (Exa.neArv E_a A_t (hw _ (List.mem_of_getElem? (i := 31) rfl))))
  have Fr0_bytes_4 := Gb1.other W4 (Or.inr (slot_ne (Or.inl (hw _ (List.mem_of_getElem? (i := 38) rfl))) (Or.inl (hw _ (List.mem_of_getElem? (i := 49) rfl))) (by decide) (t := (.array .byte)) (t' := .int) (by decide) (by decide)))
  have Fr0_length_4 := Gl1.same W4
  have Vb1_4 := Ga1.other W4 (Ne.symm ne_r0_b1)
  refine own_go st4 ?_
  show own_Fin p.tables e below _ (T4.setTop (mkF m 20 #[.val (.ref r0), .val (.int i1)] [(.int (0 : Int32)), (.ref b1)]))
  refine own_go (fun _ k => XS.iloadN X4.here hx rfl (hb hby dag0_20) rfl k) ?_
  show own_Fin p.tables e below _ (T4.setTop (mkF m 21 #[.val (.ref r0), .val (.int i1)] [(.int i1), (.int (0 : Int32)), (.ref b1)]))
  refine own_go (fun _ k => XT.i2b X4.here hx rfl (hb hby dag0_21) rfl k) ?_
  show own_Fin p.tables e below _ (T4.setTop (mkF m 22 #[.val (.ref r0), .val (.int i1)] [(.int (i1.toInt8.toInt32)), (.int (0 : Int32)), (.ref b1)]))
  have P5 : Arv Z h4 b1 kb1 .byte (1 : Int32) [(.int (0 : Int32))] (.int (0 : Int32)) := Vb1_4.pad (pad_rep [] (.int (0 : Int32)) 1)
  obtain ⟨c5, Ar5, q5, S5, M5, H5, U5⟩ := id P5
  obtain ⟨T5, h5, X5, e5, W5, st5⟩ := stB X4 hx hZ e4 Ar5 (j := (0 : Int32)) (inb_of S5 ⟨(by decide), (by decide)⟩) (g := (mkF m 22 #[.val (.ref r0), .val (.int i1)] [(.int (i1.toInt8.toInt32)), (.int (0 : Int32)), (.ref b1)])) rfl rfl (hb hby dag0_22)
  have K5 := K4.wr W5 (Or.inr (Nat.le_trans K0.1 q1))
  have N5 := Fr.snoc X5 N4 (Nat.le_trans Z0 (Nat.le_trans K0.1 q1))
  have Er0_5 := Er0_4.wr W5
  have Vr5_5 := Vr5_4.other W5 ne_r5_b1
  have Fr0_bytes_5 := Fr0_bytes_4.other W5 (Or.inl ne_r0_b1)
  have Fr0_length_5 := Fr0_length_4.other W5 (Or.inl ne_r0_b1)
  have Vb1_5 : Arv Z h5 b1 kb1 .byte (1 : Int32) [(.int (nar .byte (i1.toInt8.toInt32)))] (.int (0 : Int32)) := Arv.set Ar5 q5 S5 M5 H5 U5 (StrChars.fits_lo8 _) W5 0 rfl (Nat.le_of_ble_eq_true rfl)
  refine own_go st5 ?_
  show own_Fin p.tables e below _ (T5.setTop (mkF m 23 #[.val (.ref r0), .val (.int i1)] []))
  refine own_retV X5 hx hlk hret (hb hby dag0_23) ?_ (by decide) (by decide)
  show _ ∧ _ ∧ Keep h0 T5.heap _ ∧ _
  rw [e5]
  exact ⟨rfl, N5, K5, b1, kb1, Fr0_bytes_5, Fr0_length_5, (Nat.le_trans K0.1 q1), Vb1_5⟩
theorem dan1_0 : decode prog_16_method_9_code 0 = .ok (.aload_n 0, 1) := by decide +kernel
theorem dan1_1 : decode prog_16_method_9_code 1 = .ok (.lconst 1, 1) := by decide +kernel
theorem dan1_2 : decode prog_16_method_9_code 2 = .ok (.invokevirtual 94, 3) := by decide +kernel
theorem dan1_5 : decode prog_16_method_9_code 5 = .ok (.aload_n 0, 1) := by decide +kernel
theorem dan1_6 : decode prog_16_method_9_code 6 = .ok (.getfield 7, 3) := by decide +kernel
theorem dan1_9 : decode prog_16_method_9_code 9 = .ok (.aload_n 0, 1) := by decide +kernel
theorem dan1_10 : decode prog_16_method_9_code 10 = .ok (.dup, 1) := by decide +kernel
theorem dan1_11 : decode prog_16_method_9_code 11 = .ok (.getfield 98, 3) := by decide +kernel
theorem dan1_14 : decode prog_16_method_9_code 14 = .ok (.dup_x1, 1) := by decide +kernel
theorem dan1_15 : decode prog_16_method_9_code 15 = .ok (.iconst 1, 1) := by decide +kernel
theorem dan1_16 : decode prog_16_method_9_code 16 = .ok (.iadd, 1) := by decide +kernel
theorem dan1_17 : decode prog_16_method_9_code 17 = .ok (.putfield 98, 3) := by decide +kernel
theorem dan1_20 : decode prog_16_method_9_code 20 = .ok (.iload_n 1, 1) := by decide +kernel
theorem dan1_21 : decode prog_16_method_9_code 21 = .ok (.i2b, 1) := by decide +kernel
theorem dan1_22 : decode prog_16_method_9_code 22 = .ok (.bastore, 1) := by decide +kernel
theorem dan1_23 : decode prog_16_method_9_code 23 = .ok (.return_, 1) := by decide +kernel
theorem efan1 (m : MethodId) (r0 : Addr) (i1 : Int32) : entryFrame m #[(.ref r0), (.int i1)] 2 = mkF m 0 #[.val (.ref r0), .val (.int i1)] [] := by first | (simp [entryFrame, mkF, argsToLocals, Value.category]; done) | rfl
set_option maxRecDepth 65536 in
set_option maxHeartbeats 40000000 in
theorem rman1 (l : Launch) (Z : State) (a0 : Array Value) (hw : ∀ d ∈ tables_1, d.before a0 Z = true) (ws : List Jvm.Cond) (r0 : Addr) (i1 : Int32) (h0 : Heap) (n0 : Nat) (Z0 : n0 ≤ h0.size) (r5 : Addr) (k5 : ClassId) (w0 : Int32) (z5 : Int32) (E_a : Exa Z h0 r0 "com/example/envelope/envelope/JsonOutput") (F_b : Fld Z h0 r0 "com/example/envelope/envelope/JsonOutput" "bytes" "[B" (.ref r5)) (F_l : Fld Z h0 r0 "com/example/envelope/envelope/JsonOutput" "length" "I" (.int (1 : Int32))) (A_t : Arv Z h0 r5 k5 .byte z5 [(.int w0)] (.int (0 : Int32))) (g_a : n0 ≤ r0) (g_t : n0 ≤ r5) (hq5 : ¬ z5 < (2 : Int32) ∧ z5 < 8) :
    own_Met l (⟨"com/example/envelope/envelope/JsonOutput", "append", "(C)V"⟩ : MethodName) prog_16_method_9_code 2 none ({ frames := 1, cells := 0, slots := 0, locals := 18 } : Room) ws #[(.ref r0), (.int i1)] Z h0 0 0 (fun v h L => v = none ∧ Fr n0 L ∧ Keep h0 h [r0, r5] ∧ Fld Z h r0 "com/example/envelope/envelope/JsonOutput" "bytes" "[B" (.ref r5) ∧ Fld Z h r0 "com/example/envelope/envelope/JsonOutput" "length" "I" (.int (2 : Int32)) ∧ Arv Z h r5 k5 .byte z5 [(.int w0), (.int (nar .byte (i1.toInt8.toInt32)))] (.int (0 : Int32))) := by
  refine own_met (plainFor_of_name pn1) ?_
  intro p e s m below meth c s₁ hx hby hml hown hnm hret hlk hZ e0 X0
  have hml : c.maxLocals = 2 := hml
  have N0 := Fr.nil n0
  have K0 := Keep.refl h0 [r0, r5]
  refine own_go (fun _ k => castTop (efan1 m r0 i1) k) ?_
  show own_Fin p.tables e below _ (s₁.setTop (mkF m 0 #[.val (.ref r0), .val (.int i1)] []))
  refine own_go (fun _ k => XS.aloadN X0.here hx rfl (hb hby dan1_0) rfl rfl k) ?_
  show own_Fin p.tables e below _ (s₁.setTop (mkF m 1 #[.val (.ref r0), .val (.int i1)] [(.ref r0)]))
  refine own_go (fun _ k => XT.lconstV X0.here hx rfl (1 : Int64) (hb hby dan1_1) (by decide) k) ?_
  show own_Fin p.tables e below _ (s₁.setTop (mkF m 2 #[.val (.ref r0), .val (.int i1)] [(.long (1 : Int64)), (.ref r0)]))
  obtain ⟨_, T1, L1, X1, ⟨rfl, M1, e1⟩, st1⟩ := own_callP X0 hx hZ hown (hw _ (List.mem_of_getElem? (i := 44) rfl)) (hw _ (List.mem_of_getElem? (i := 45) rfl)) (hw _ (List.mem_of_getElem? (i := 46) rfl)) (hw _ (List.mem_of_getElem? (i := 31) rfl)) (hw _ (List.mem_of_getElem? (i := 32) rfl)) (hw _ (List.mem_of_getElem? (i := 47) rfl)) (by decide) (W := 0) (rmen l Z a0 hw [] r0 (1 : Int64) h0 n0 (Nat.le_trans Z0 K0.1) r5 k5 (1 : Int32) z5 [(.int w0)] (.int (0 : Int32)) E_a F_b F_l A_t (own_ng11 hq5)) (by decide) (by decide) e0 E_a (g := (mkF m 2 #[.val (.ref r0), .val (.int i1)] [(.long (1 : Int64)), (.ref r0)])) rfl (by rw [hml]; rfl) (argsL := [(.long (1 : Int64))]) (rest := []) rfl (lenOf pd3 rfl) rfl (by show 2 * 0 + _ ≤ _; exact Nat.le_of_eq rfl) (hb hby dan1_2) (by decide) (by decide)
  have N1 := Fr.app N0 M1
  refine own_go st1 ?_
  show own_Fin p.tables e below _ (T1.setTop (mkF m 5 #[.val (.ref r0), .val (.int i1)] []))
  refine own_go (fun _ k => XS.aloadN X1.here hx rfl (hb hby dan1_5) rfl rfl k) ?_
  show own_Fin p.tables e below _ (T1.setTop (mkF m 6 #[.val (.ref r0), .val (.int i1)] [(.ref r0)]))
  obtain ⟨T2, X2, e2, st2⟩ := getF X1 hx hZ hown (host := "") (Or.inl (hw _ (List.mem_of_getElem? (i := 37) rfl))) Via.refl e1 F_b (g := (mkF m 6 #[.val (.ref r0), .val (.int i1)] [(.ref r0)])) rfl rfl (hb hby dan1_6)
  refine own_go st2 ?_
  show own_Fin p.tables e below _ (T2.setTop (mkF m 9 #[.val (.ref r0), .val (.int i1)] [(.ref r5)]))
  refine own_go (fun _ k => XS.aloadN X2.here hx rfl (hb hby dan1_9) rfl rfl k) ?_
  show own_Fin p.tables e below _ (T2.setTop (mkF m 10 #[.val (.ref r0), .val (.int i1)] [(.ref r0), (.ref r5)]))
  refine own_go (fun _ k => XS.dup X2.here hx rfl (hb hby dan1_10) rfl rfl k) ?_
  show own_Fin p.tables e below _ (T2.setTop (mkF m 11 #[.val (.ref r0), .val (.int i1)] [(.ref r0), (.ref r0), (.ref r5)]))
  obtain ⟨T3, X3, e3, st3⟩ := getF X2 hx hZ hown (host := "") (Or.inl (hw _ (List.mem_of_getElem? (i := 48) rfl))) Via.refl e2 F_l (g := (mkF m 11 #[.val (.ref r0), .val (.int i1)] [(.ref r0), (.ref r0), (.ref r5)])) rfl rfl (hb hby dan1_11)
  refine own_go st3 ?_
  show own_Fin p.tables e below _ (T3.setTop (mkF m 14 #[.val (.ref r0), .val (.int i1)] [(.int (1 : Int32)), (.ref r0), (.ref r5)]))
  refine own_go (fun _ k => XT.dupX1 X3.here hx rfl (hb hby dan1_14) rfl rfl rfl k) ?_
  show own_Fin p.tables e below _ (T3.setTop (mkF m 15 #[.val (.ref r0), .val (.int i1)] [(.int (1 : Int32)), (.ref r0), (.int (1 : Int32)), (.ref r5)]))
  refine own_go (fun _ k => XT.iconstV X3.here hx rfl (1 : Int32) (hb hby dan1_15) (by decide) k) ?_
  show own_Fin p.tables e below _ (T3.setTop (mkF m 16 #[.val (.ref r0), .val (.int i1)] [(.int (1 : Int32)), (.int (1 : Int32)), (.ref r0), (.int (1 : Int32)), (.ref r5)]))
  refine own_go (fun _ k => XS.iadd X3.here hx rfl (hb hby dan1_16) rfl k) ?_
  show own_Fin p.tables e below _ (T3.setTop (mkF m 17 #[.val (.ref r0), .val (.int i1)] [(.int ((1 : Int32) + (1 : Int32))), (.ref r0), (.int (1 : Int32)), (.ref r5)]))
  rw [show ((1 : Int32) + (1 : Int32)) = (2 : Int32) from by decide +kernel]
  show own_Fin p.tables e below _ (T3.setTop (mkF m 17 #[.val (.ref r0), .val (.int i1)] [(.int (2 : Int32)), (.ref r0), (.int (1 : Int32)), (.ref r5)]))
  obtain ⟨T4, h4, X4, e4, W4, st4⟩ := putF X3 hx hZ hown (host := "") (Or.inl (hw _ (List.mem_of_getElem? (i := 48) rfl))) Via.refl e3 F_l E_a (Or.inl (hw _ (List.mem_of_getElem? (i := 49) rfl))) (hw _ (List.mem_of_getElem? (i := 31) rfl)) (ty := .int) (by decide) rfl rfl (g := (mkF m 17 #[.val (.ref r0), .val (.int i1)] [(.int (2 : Int32)), (.ref r0), (.int (1 : Int32)), (.ref r5)])) rfl rfl (hb hby dan1_17)
  have K4 := K0.wr W4 (Or.inl (List.mem_of_getElem? (i := 0) rfl))
  have N4 := Fr.snoc X4 N1 g_a
  have Er0_4 := E_a.wr W4
  have Fr0_bytes_4 := F_b.other W4 (Or.inr (slot_ne (Or.inl (hw _ (List.mem_of_getElem? (i := 38) rfl))) (Or.inl (hw _ (List.mem_of_getElem? (i := 49) rfl))) (by decide) (t := (.array .byte)) (t' := .int) (by decide) (by decide)))
  have Fr0_length_4 := F_l.same W4
  have Vr5_4 := A_t.other W4 (Ne.symm (Exa.neArv E_a A_t (hw _ (List.mem_of_getElem? (i := 31) rfl))))
  refine own_go st4 ?_
  show own_Fin p.tables e below _ (T4.setTop (mkF m 20 #[.val (.ref r0), .val (.int i1)] [(.int (1 : Int32)), (.ref r5)]))
  refine own_go (fun _ k => XS.iloadN X4.here hx rfl (hb hby dan1_20) rfl k) ?_
  show own_Fin p.tables e below _ (T4.setTop (mkF m 21 #[.val (.ref r0), .val (.int i1)] [(.int i1), (.int (1 : Int32)), (.ref r5)]))
  refine own_go (fun _ k => XT.i2b X4.here hx rfl (hb hby dan1_21) rfl k) ?_
  show own_Fin p.tables e below _ (T4.setTop (mkF m 22 #[.val (.ref r0), .val (.int i1)] [(.int (i1.toInt8.toInt32)), (.int (1 : Int32)), (.ref r5)]))
  have P5 : Arv Z h4 r5 k5 .byte z5 [(.int w0), (.int (0 : Int32))] (.int (0 : Int32)) := Vr5_4.pad (pad_rep [(.int w0)] (.int (0 : Int32)) 1)
  obtain ⟨c5, Ar5, q5, S5, M5, H5, U5⟩ := id P5
  obtain ⟨T5, h5, X5, e5, W5, st5⟩ := stB X4 hx hZ e4 Ar5 (j := (1 : Int32)) (inb_of S5 ⟨(by decide), (own_lt1 hq5)⟩) (g := (mkF m 22 #[.val (.ref r0), .val (.int i1)] [(.int (i1.toInt8.toInt32)), (.int (1 : Int32)), (.ref r5)])) rfl rfl (hb hby dan1_22)
  have K5 := K4.wr W5 (Or.inl (List.mem_of_getElem? (i := 1) rfl))
  have N5 := Fr.snoc X5 N4 g_t
  have Er0_5 := Er0_4.wr W5
  have Fr0_bytes_5 := Fr0_bytes_4.other W5 (Or.inl (Exa.neArv E_a A_t (hw _ (List.mem_of_getElem? (i := 31) rfl))))
  have Fr0_length_5 := Fr0_length_4.other W5 (Or.inl (Exa.neArv E_a A_t (hw _ (List.mem_of_getElem? (i := 31) rfl))))
  have Vr5_5 : Arv Z h5 r5 k5 .byte z5 [(.int w0), (.int (nar .byte (i1.toInt8.toInt32)))] (.int (0 : Int32)) := Arv.set Ar5 q5 S5 M5 H5 U5 (StrChars.fits_lo8 _) W5 1 rfl (Nat.le_of_ble_eq_true rfl)
  refine own_go st5 ?_
  show own_Fin p.tables e below _ (T5.setTop (mkF m 23 #[.val (.ref r0), .val (.int i1)] []))
  refine own_retV X5 hx hlk hret (hb hby dan1_23) ?_ (by decide) (by decide)
  show _ ∧ _ ∧ Keep h0 T5.heap _ ∧ _
  rw [e5]
  exact ⟨rfl, N5, K5, Fr0_bytes_5, Fr0_length_5, Vr5_5⟩
theorem dag1_0 : decode prog_16_method_9_code 0 = .ok (.aload_n 0, 1) := by decide +kernel
theorem dag1_1 : decode prog_16_method_9_code 1 = .ok (.lconst 1, 1) := by decide +kernel
theorem dag1_2 : decode prog_16_method_9_code 2 = .ok (.invokevirtual 94, 3) := by decide +kernel
theorem dag1_5 : decode prog_16_method_9_code 5 = .ok (.aload_n 0, 1) := by decide +kernel
theorem dag1_6 : decode prog_16_method_9_code 6 = .ok (.getfield 7, 3) := by decide +kernel
theorem dag1_9 : decode prog_16_method_9_code 9 = .ok (.aload_n 0, 1) := by decide +kernel
theorem dag1_10 : decode prog_16_method_9_code 10 = .ok (.dup, 1) := by decide +kernel
theorem dag1_11 : decode prog_16_method_9_code 11 = .ok (.getfield 98, 3) := by decide +kernel
theorem dag1_14 : decode prog_16_method_9_code 14 = .ok (.dup_x1, 1) := by decide +kernel
theorem dag1_15 : decode prog_16_method_9_code 15 = .ok (.iconst 1, 1) := by decide +kernel
theorem dag1_16 : decode prog_16_method_9_code 16 = .ok (.iadd, 1) := by decide +kernel
theorem dag1_17 : decode prog_16_method_9_code 17 = .ok (.putfield 98, 3) := by decide +kernel
theorem dag1_20 : decode prog_16_method_9_code 20 = .ok (.iload_n 1, 1) := by decide +kernel
theorem dag1_21 : decode prog_16_method_9_code 21 = .ok (.i2b, 1) := by decide +kernel
theorem dag1_22 : decode prog_16_method_9_code 22 = .ok (.bastore, 1) := by decide +kernel
theorem dag1_23 : decode prog_16_method_9_code 23 = .ok (.return_, 1) := by decide +kernel
theorem efag1 (m : MethodId) (r0 : Addr) (i1 : Int32) : entryFrame m #[(.ref r0), (.int i1)] 2 = mkF m 0 #[.val (.ref r0), .val (.int i1)] [] := by first | (simp [entryFrame, mkF, argsToLocals, Value.category]; done) | rfl
set_option maxRecDepth 65536 in
set_option maxHeartbeats 40000000 in
theorem rmag1 (l : Launch) (Z : State) (a0 : Array Value) (hw : ∀ d ∈ tables_1, d.before a0 Z = true) (ws : List Jvm.Cond) (r0 : Addr) (i1 : Int32) (h0 : Heap) (n0 : Nat) (Z0 : n0 ≤ h0.size) (r5 : Addr) (k5 : ClassId) (w0 : Int32) (E_a : Exa Z h0 r0 "com/example/envelope/envelope/JsonOutput") (F_b : Fld Z h0 r0 "com/example/envelope/envelope/JsonOutput" "bytes" "[B" (.ref r5)) (F_l : Fld Z h0 r0 "com/example/envelope/envelope/JsonOutput" "length" "I" (.int (1 : Int32))) (A_t : Arv Z h0 r5 k5 .byte (1 : Int32) [(.int w0)] (.int (0 : Int32))) (g_a : n0 ≤ r0) (g_t : n0 ≤ r5) :
    own_Met l (⟨"com/example/envelope/envelope/JsonOutput", "append", "(C)V"⟩ : MethodName) prog_16_method_9_code 2 none ({ frames := 3, cells := 1, slots := 2, locals := 60 } : Room) ws #[(.ref r0), (.int i1)] Z h0 1 2 (fun v h L => v = none ∧ Fr n0 L ∧ Keep h0 h [r0] ∧ ∃ b k, Fld Z h r0 "com/example/envelope/envelope/JsonOutput" "bytes" "[B" (.ref b) ∧ Fld Z h r0 "com/example/envelope/envelope/JsonOutput" "length" "I" (.int (2 : Int32)) ∧ h0.size ≤ b ∧ Arv Z h b k .byte (2 : Int32) [(.int w0), (.int (nar .byte (i1.toInt8.toInt32)))] (.int (0 : Int32))) := by
  refine own_met (plainFor_of_name pn1) ?_
  intro p e s m below meth c s₁ hx hby hml hown hnm hret hlk hZ e0 X0
  have hml : c.maxLocals = 2 := hml
  have N0 := Fr.nil n0
  have K0 := Keep.refl h0 [r0]
  refine own_go (fun _ k => castTop (efag1 m r0 i1) k) ?_
  show own_Fin p.tables e below _ (s₁.setTop (mkF m 0 #[.val (.ref r0), .val (.int i1)] []))
  refine own_go (fun _ k => XS.aloadN X0.here hx rfl (hb hby dag1_0) rfl rfl k) ?_
  show own_Fin p.tables e below _ (s₁.setTop (mkF m 1 #[.val (.ref r0), .val (.int i1)] [(.ref r0)]))
  refine own_go (fun _ k => XT.lconstV X0.here hx rfl (1 : Int64) (hb hby dag1_1) (by decide) k) ?_
  show own_Fin p.tables e below _ (s₁.setTop (mkF m 2 #[.val (.ref r0), .val (.int i1)] [(.long (1 : Int64)), (.ref r0)]))
  obtain ⟨_, T1, L1, X1, ⟨rfl, M1, KK1, b1, kb1, Gb1, Gl1, q1, Ga1⟩, st1⟩ := own_callP X0 hx hZ hown (hw _ (List.mem_of_getElem? (i := 44) rfl)) (hw _ (List.mem_of_getElem? (i := 45) rfl)) (hw _ (List.mem_of_getElem? (i := 46) rfl)) (hw _ (List.mem_of_getElem? (i := 31) rfl)) (hw _ (List.mem_of_getElem? (i := 32) rfl)) (hw _ (List.mem_of_getElem? (i := 47) rfl)) (by decide) (W := 0) (rmg11 l Z a0 hw [] r0 h0 n0 (Nat.le_trans Z0 K0.1) r5 k5 w0  E_a F_b F_l A_t g_a g_t) (by decide) (by decide) e0 E_a (g := (mkF m 2 #[.val (.ref r0), .val (.int i1)] [(.long (1 : Int64)), (.ref r0)])) rfl (by rw [hml]; rfl) (argsL := [(.long (1 : Int64))]) (rest := []) rfl (lenOf pd3 rfl) rfl (by show 2 * 0 + _ ≤ _; exact Nat.le_of_eq rfl) (hb hby dag1_2) (by decide) (by decide)
  have N1 := Fr.app N0 M1
  have ne_r0_b1 : r0 ≠ b1 := own_lt_ne E_a.lt q1
  have ne_r5_b1 : r5 ≠ b1 := own_lt_ne A_t.lt q1
  have Er0_1 := E_a.keep KK1
  have Vr5_1 := A_t.keep KK1 (ninS (Ne.symm (Exa.neArv E_a A_t (hw _ (List.mem_of_getElem? (i := 31) rfl)))) nin0)
  have K1 := K0.trans KK1 (allS (Or.inl (List.mem_of_getElem? (i := 0) rfl)) all0)
  refine own_go st1 ?_
  show own_Fin p.tables e below _ (T1.setTop (mkF m 5 #[.val (.ref r0), .val (.int i1)] []))
  refine own_go (fun _ k => XS.aloadN X1.here hx rfl (hb hby dag1_5) rfl rfl k) ?_
  show own_Fin p.tables e below _ (T1.setTop (mkF m 6 #[.val (.ref r0), .val (.int i1)] [(.ref r0)]))
  obtain ⟨T2, X2, e2, st2⟩ := getF X1 hx hZ hown (host := "") (Or.inl (hw _ (List.mem_of_getElem? (i := 37) rfl))) Via.refl rfl Gb1 (g := (mkF m 6 #[.val (.ref r0), .val (.int i1)] [(.ref r0)])) rfl rfl (hb hby dag1_6)
  refine own_go st2 ?_
  show own_Fin p.tables e below _ (T2.setTop (mkF m 9 #[.val (.ref r0), .val (.int i1)] [(.ref b1)]))
  refine own_go (fun _ k => XS.aloadN X2.here hx rfl (hb hby dag1_9) rfl rfl k) ?_
  show own_Fin p.tables e below _ (T2.setTop (mkF m 10 #[.val (.ref r0), .val (.int i1)] [(.ref r0), (.ref b1)]))
  refine own_go (fun _ k => XS.dup X2.here hx rfl (hb hby dag1_10) rfl rfl k) ?_
  show own_Fin p.tables e below _ (T2.setTop (mkF m 11 #[.val (.ref r0), .val (.int i1)] [(.ref r0), (.ref r0), (.ref b1)]))
  obtain ⟨T3, X3, e3, st3⟩ := getF X2 hx hZ hown (host := "") (Or.inl (hw _ (List.mem_of_getElem? (i := 48) rfl))) Via.refl e2 Gl1 (g := (mkF m 11 #[.val (.ref r0), .val (.int i1)] [(.ref r0), (.ref r0), (.ref b1)])) rfl rfl (hb hby dag1_11)
  refine own_go st3 ?_
  show own_Fin p.tables e below _ (T3.setTop (mkF m 14 #[.val (.ref r0), .val (.int i1)] [(.int (1 : Int32)), (.ref r0), (.ref b1)]))
  refine own_go (fun _ k => XT.dupX1 X3.here hx rfl (hb hby dag1_14) rfl rfl rfl k) ?_
  show own_Fin p.tables e below _ (T3.setTop (mkF m 15 #[.val (.ref r0), .val (.int i1)] [(.int (1 : Int32)), (.ref r0), (.int (1 : Int32)), (.ref b1)]))
  refine own_go (fun _ k => XT.iconstV X3.here hx rfl (1 : Int32) (hb hby dag1_15) (by decide) k) ?_
  show own_Fin p.tables e below _ (T3.setTop (mkF m 16 #[.val (.ref r0), .val (.int i1)] [(.int (1 : Int32)), (.int (1 : Int32)), (.ref r0), (.int (1 : Int32)), (.ref b1)]))
  refine own_go (fun _ k => XS.iadd X3.here hx rfl (hb hby dag1_16) rfl k) ?_
  show own_Fin p.tables e below _ (T3.setTop (mkF m 17 #[.val (.ref r0), .val (.int i1)] [(.int ((1 : Int32) + (1 : Int32))), (.ref r0), (.int (1 : Int32)), (.ref b1)]))
  rw [show ((1 : Int32) + (1 : Int32)) = (2 : Int32) from by decide +kernel]
  show own_Fin p.tables e below _ (T3.setTop (mkF m 17 #[.val (.ref r0), .val (.int i1)] [(.int (2 : Int32)), (.ref r0), (.int (1 : Int32)), (.ref b1)]))
  obtain ⟨T4, h4, X4, e4, W4, st4⟩ := putF X3 hx hZ hown (host := "") (Or.inl (hw _ (List.mem_of_getElem? (i := 48) rfl))) Via.refl e3 Gl1 Er0_1 (Or.inl (hw _ (List.mem_of_getElem? (i := 49) rfl))) (hw _ (List.mem_of_getElem? (i := 31) rfl)) (ty := .int) (by decide) rfl rfl (g := (mkF m 17 #[.val (.ref r0), .val (.int i1)] [(.int (2 : Int32)), (.ref r0), (.int (1 : Int32)), (.ref b1)])) rfl rfl (hb hby dag1_17)
  have K4 := K1.wr W4 (Or.inl (List.mem_of_getElem? (i := 0) rfl))
  have N4 := Fr.snoc X4 N1 g_a
  have Er0_4 := Er0_1.wr W4
  have Vr5_4 := Vr5_1.other W4 (Ne.symm (Exa.neArv E_a A_t (hw _ (List.mem_of_getElem? (i := 31) rfl))))
  have Fr0_bytes_4 := Gb1.other W4 (Or.inr (slot_ne (Or.inl (hw _ (List.mem_of_getElem? (i := 38) rfl))) (Or.inl (hw _ (List.mem_of_getElem? (i := 49) rfl))) (by decide) (t := (.array .byte)) (t' := .int) (by decide) (by decide)))
  have Fr0_length_4 := Gl1.same W4
  have Vb1_4 := Ga1.other W4 (Ne.symm ne_r0_b1)
  refine own_go st4 ?_
  show own_Fin p.tables e below _ (T4.setTop (mkF m 20 #[.val (.ref r0), .val (.int i1)] [(.int (1 : Int32)), (.ref b1)]))
  refine own_go (fun _ k => XS.iloadN X4.here hx rfl (hb hby dag1_20) rfl k) ?_
  show own_Fin p.tables e below _ (T4.setTop (mkF m 21 #[.val (.ref r0), .val (.int i1)] [(.int i1), (.int (1 : Int32)), (.ref b1)]))
  refine own_go (fun _ k => XT.i2b X4.here hx rfl (hb hby dag1_21) rfl k) ?_
  show own_Fin p.tables e below _ (T4.setTop (mkF m 22 #[.val (.ref r0), .val (.int i1)] [(.int (i1.toInt8.toInt32)), (.int (1 : Int32)), (.ref b1)]))
  have P5 : Arv Z h4 b1 kb1 .byte (2 : Int32) [(.int w0), (.int (0 : Int32))] (.int (0 : Int32)) := Vb1_4.pad (pad_rep [(.int w0)] (.int (0 : Int32)) 1)
  obtain ⟨c5, Ar5, q5, S5, M5, H5, U5⟩ := id P5
  obtain ⟨T5, h5, X5, e5, W5, st5⟩ := stB X4 hx hZ e4 Ar5 (j := (1 : Int32)) (inb_of S5 ⟨(by decide), (by decide)⟩) (g := (mkF m 22 #[.val (.ref r0), .val (.int i1)] [(.int (i1.toInt8.toInt32)), (.int (1 : Int32)), (.ref b1)])) rfl rfl (hb hby dag1_22)
  have K5 := K4.wr W5 (Or.inr (Nat.le_trans K0.1 q1))
  have N5 := Fr.snoc X5 N4 (Nat.le_trans Z0 (Nat.le_trans K0.1 q1))
  have Er0_5 := Er0_4.wr W5
  have Vr5_5 := Vr5_4.other W5 ne_r5_b1
  have Fr0_bytes_5 := Fr0_bytes_4.other W5 (Or.inl ne_r0_b1)
  have Fr0_length_5 := Fr0_length_4.other W5 (Or.inl ne_r0_b1)
  have Vb1_5 : Arv Z h5 b1 kb1 .byte (2 : Int32) [(.int w0), (.int (nar .byte (i1.toInt8.toInt32)))] (.int (0 : Int32)) := Arv.set Ar5 q5 S5 M5 H5 U5 (StrChars.fits_lo8 _) W5 1 rfl (Nat.le_of_ble_eq_true rfl)
  refine own_go st5 ?_
  show own_Fin p.tables e below _ (T5.setTop (mkF m 23 #[.val (.ref r0), .val (.int i1)] []))
  refine own_retV X5 hx hlk hret (hb hby dag1_23) ?_ (by decide) (by decide)
  show _ ∧ _ ∧ Keep h0 T5.heap _ ∧ _
  rw [e5]
  exact ⟨rfl, N5, K5, b1, kb1, Fr0_bytes_5, Fr0_length_5, (Nat.le_trans K0.1 q1), Vb1_5⟩
theorem dl1_0 : decode prog_16_method_15_code 0 = .ok (.aload_n 0, 1) := by decide +kernel
theorem dl1_1 : decode prog_16_method_15_code 1 = .ok (.getfield 7, 3) := by decide +kernel
theorem dl1_4 : decode prog_16_method_15_code 4 = .ok (.aload_n 0, 1) := by decide +kernel
theorem dl1_5 : decode prog_16_method_15_code 5 = .ok (.getfield 98, 3) := by decide +kernel
theorem dl1_8 : decode prog_16_method_15_code 8 = .ok (.iconst 1, 1) := by decide +kernel
theorem dl1_9 : decode prog_16_method_15_code 9 = .ok (.isub, 1) := by decide +kernel
theorem dl1_10 : decode prog_16_method_15_code 10 = .ok (.baload, 1) := by decide +kernel
theorem dl1_11 : decode prog_16_method_15_code 11 = .ok (.ireturn, 1) := by decide +kernel
theorem pd6 : parseMethodDescriptor "()B" = some ⟨[], some .byte⟩ := by decide +kernel
theorem efl1 (m : MethodId) (r0 : Addr) : entryFrame m #[(.ref r0)] 1 = mkF m 0 #[.val (.ref r0)] [] := by first | (simp [entryFrame, mkF, argsToLocals, Value.category]; done) | rfl
set_option maxRecDepth 65536 in
set_option maxHeartbeats 40000000 in
theorem rml1 (l : Launch) (Z : State) (a0 : Array Value) (hw : ∀ d ∈ tables_1, d.before a0 Z = true) (ws : List Jvm.Cond) (r0 : Addr) (h0 : Heap) (n0 : Nat) (Z0 : n0 ≤ h0.size) (r5 : Addr) (k5 : ClassId) (w0 : Int32) (z5 : Int32) (E_a : Exa Z h0 r0 "com/example/envelope/envelope/JsonOutput") (F_b : Fld Z h0 r0 "com/example/envelope/envelope/JsonOutput" "bytes" "[B" (.ref r5)) (F_l : Fld Z h0 r0 "com/example/envelope/envelope/JsonOutput" "length" "I" (.int (1 : Int32))) (A_t : Arv Z h0 r5 k5 .byte z5 [(.int w0)] (.int (0 : Int32))) (g_a : n0 ≤ r0) (g_t : n0 ≤ r5) (hq5 : ¬ z5 < (1 : Int32) ∧ z5 < 8) :
    own_Met l (⟨"com/example/envelope/envelope/JsonOutput", "last", "()B"⟩ : MethodName) prog_16_method_15_code 1 (some .byte) ({ frames := 0, cells := 0, slots := 0, locals := 0 } : Room) ws #[(.ref r0)] Z h0 0 0 (own_QP (some (.int (nar .byte w0))) h0 n0) := by
  refine own_met (plainFor_of_name pn1) ?_
  intro p e s m below meth c s₁ hx hby hml hown hnm hret hlk hZ e0 X0
  have hml : c.maxLocals = 1 := hml
  have N0 := Fr.nil n0
  have K0 := Keep.refl h0 [r0]
  refine own_go (fun _ k => castTop (efl1 m r0) k) ?_
  show own_Fin p.tables e below _ (s₁.setTop (mkF m 0 #[.val (.ref r0)] []))
  refine own_go (fun _ k => XS.aloadN X0.here hx rfl (hb hby dl1_0) rfl rfl k) ?_
  show own_Fin p.tables e below _ (s₁.setTop (mkF m 1 #[.val (.ref r0)] [(.ref r0)]))
  obtain ⟨T1, X1, e1, st1⟩ := getF X0 hx hZ hown (host := "") (Or.inl (hw _ (List.mem_of_getElem? (i := 37) rfl))) Via.refl e0 F_b (g := (mkF m 1 #[.val (.ref r0)] [(.ref r0)])) rfl rfl (hb hby dl1_1)
  refine own_go st1 ?_
  show own_Fin p.tables e below _ (T1.setTop (mkF m 4 #[.val (.ref r0)] [(.ref r5)]))
  refine own_go (fun _ k => XS.aloadN X1.here hx rfl (hb hby dl1_4) rfl rfl k) ?_
  show own_Fin p.tables e below _ (T1.setTop (mkF m 5 #[.val (.ref r0)] [(.ref r0), (.ref r5)]))
  obtain ⟨T2, X2, e2, st2⟩ := getF X1 hx hZ hown (host := "") (Or.inl (hw _ (List.mem_of_getElem? (i := 48) rfl))) Via.refl e1 F_l (g := (mkF m 5 #[.val (.ref r0)] [(.ref r0), (.ref r5)])) rfl rfl (hb hby dl1_5)
  refine own_go st2 ?_
  show own_Fin p.tables e below _ (T2.setTop (mkF m 8 #[.val (.ref r0)] [(.int (1 : Int32)), (.ref r5)]))
  refine own_go (fun _ k => XT.iconstV X2.here hx rfl (1 : Int32) (hb hby dl1_8) (by decide) k) ?_
  show own_Fin p.tables e below _ (T2.setTop (mkF m 9 #[.val (.ref r0)] [(.int (1 : Int32)), (.int (1 : Int32)), (.ref r5)]))
  refine own_go (fun _ k => XS.isub X2.here hx rfl (hb hby dl1_9) rfl k) ?_
  show own_Fin p.tables e below _ (T2.setTop (mkF m 10 #[.val (.ref r0)] [(.int ((1 : Int32) - (1 : Int32))), (.ref r5)]))
  rw [show ((1 : Int32) - (1 : Int32)) = (0 : Int32) from by decide +kernel]
  show own_Fin p.tables e below _ (T2.setTop (mkF m 10 #[.val (.ref r0)] [(.int (0 : Int32)), (.ref r5)]))
  refine own_go (fun _ k => own_bald X2 hx hZ e2 A_t (j := (0 : Int32)) (by decide) (own_lt0 hq5) (g := (mkF m 10 #[.val (.ref r0)] [(.int (0 : Int32)), (.ref r5)])) rfl (rest := []) rfl (hb hby dl1_10) k) ?_
  show own_Fin p.tables e below _ (T2.setTop (mkF m 11 #[.val (.ref r0)] [(.int w0)]))
  refine own_retN X2 hx hlk (t := .byte) hret (by simp) (hb hby dl1_11) ?_ (by decide) (by decide)
  exact ⟨rfl, N0, e2⟩
theorem dl2_0 : decode prog_16_method_15_code 0 = .ok (.aload_n 0, 1) := by decide +kernel
theorem dl2_1 : decode prog_16_method_15_code 1 = .ok (.getfield 7, 3) := by decide +kernel
theorem dl2_4 : decode prog_16_method_15_code 4 = .ok (.aload_n 0, 1) := by decide +kernel
theorem dl2_5 : decode prog_16_method_15_code 5 = .ok (.getfield 98, 3) := by decide +kernel
theorem dl2_8 : decode prog_16_method_15_code 8 = .ok (.iconst 1, 1) := by decide +kernel
theorem dl2_9 : decode prog_16_method_15_code 9 = .ok (.isub, 1) := by decide +kernel
theorem dl2_10 : decode prog_16_method_15_code 10 = .ok (.baload, 1) := by decide +kernel
theorem dl2_11 : decode prog_16_method_15_code 11 = .ok (.ireturn, 1) := by decide +kernel
theorem efl2 (m : MethodId) (r0 : Addr) : entryFrame m #[(.ref r0)] 1 = mkF m 0 #[.val (.ref r0)] [] := by first | (simp [entryFrame, mkF, argsToLocals, Value.category]; done) | rfl
set_option maxRecDepth 65536 in
set_option maxHeartbeats 40000000 in
theorem rml2 (l : Launch) (Z : State) (a0 : Array Value) (hw : ∀ d ∈ tables_1, d.before a0 Z = true) (ws : List Jvm.Cond) (r0 : Addr) (h0 : Heap) (n0 : Nat) (Z0 : n0 ≤ h0.size) (r5 : Addr) (k5 : ClassId) (w0 : Int32) (w1 : Int32) (z5 : Int32) (E_a : Exa Z h0 r0 "com/example/envelope/envelope/JsonOutput") (F_b : Fld Z h0 r0 "com/example/envelope/envelope/JsonOutput" "bytes" "[B" (.ref r5)) (F_l : Fld Z h0 r0 "com/example/envelope/envelope/JsonOutput" "length" "I" (.int (2 : Int32))) (A_t : Arv Z h0 r5 k5 .byte z5 [(.int w0), (.int w1)] (.int (0 : Int32))) (g_a : n0 ≤ r0) (g_t : n0 ≤ r5) (hq5 : ¬ z5 < (2 : Int32) ∧ z5 < 8) :
    own_Met l (⟨"com/example/envelope/envelope/JsonOutput", "last", "()B"⟩ : MethodName) prog_16_method_15_code 1 (some .byte) ({ frames := 0, cells := 0, slots := 0, locals := 0 } : Room) ws #[(.ref r0)] Z h0 0 0 (own_QP (some (.int (nar .byte w1))) h0 n0) := by
  refine own_met (plainFor_of_name pn1) ?_
  intro p e s m below meth c s₁ hx hby hml hown hnm hret hlk hZ e0 X0
  have hml : c.maxLocals = 1 := hml
  have N0 := Fr.nil n0
  have K0 := Keep.refl h0 [r0]
  refine own_go (fun _ k => castTop (efl2 m r0) k) ?_
  show own_Fin p.tables e below _ (s₁.setTop (mkF m 0 #[.val (.ref r0)] []))
  refine own_go (fun _ k => XS.aloadN X0.here hx rfl (hb hby dl2_0) rfl rfl k) ?_
  show own_Fin p.tables e below _ (s₁.setTop (mkF m 1 #[.val (.ref r0)] [(.ref r0)]))
  obtain ⟨T1, X1, e1, st1⟩ := getF X0 hx hZ hown (host := "") (Or.inl (hw _ (List.mem_of_getElem? (i := 37) rfl))) Via.refl e0 F_b (g := (mkF m 1 #[.val (.ref r0)] [(.ref r0)])) rfl rfl (hb hby dl2_1)
  refine own_go st1 ?_
  show own_Fin p.tables e below _ (T1.setTop (mkF m 4 #[.val (.ref r0)] [(.ref r5)]))
  refine own_go (fun _ k => XS.aloadN X1.here hx rfl (hb hby dl2_4) rfl rfl k) ?_
  show own_Fin p.tables e below _ (T1.setTop (mkF m 5 #[.val (.ref r0)] [(.ref r0), (.ref r5)]))
  obtain ⟨T2, X2, e2, st2⟩ := getF X1 hx hZ hown (host := "") (Or.inl (hw _ (List.mem_of_getElem? (i := 48) rfl))) Via.refl e1 F_l (g := (mkF m 5 #[.val (.ref r0)] [(.ref r0), (.ref r5)])) rfl rfl (hb hby dl2_5)
  refine own_go st2 ?_
  show own_Fin p.tables e below _ (T2.setTop (mkF m 8 #[.val (.ref r0)] [(.int (2 : Int32)), (.ref r5)]))
  refine own_go (fun _ k => XT.iconstV X2.here hx rfl (1 : Int32) (hb hby dl2_8) (by decide) k) ?_
  show own_Fin p.tables e below _ (T2.setTop (mkF m 9 #[.val (.ref r0)] [(.int (1 : Int32)), (.int (2 : Int32)), (.ref r5)]))
  refine own_go (fun _ k => XS.isub X2.here hx rfl (hb hby dl2_9) rfl k) ?_
  show own_Fin p.tables e below _ (T2.setTop (mkF m 10 #[.val (.ref r0)] [(.int ((2 : Int32) - (1 : Int32))), (.ref r5)]))
  rw [show ((2 : Int32) - (1 : Int32)) = (1 : Int32) from by decide +kernel]
  show own_Fin p.tables e below _ (T2.setTop (mkF m 10 #[.val (.ref r0)] [(.int (1 : Int32)), (.ref r5)]))
  refine own_go (fun _ k => own_bald X2 hx hZ e2 A_t (j := (1 : Int32)) (by decide) (own_lt1 hq5) (g := (mkF m 10 #[.val (.ref r0)] [(.int (1 : Int32)), (.ref r5)])) rfl (rest := []) rfl (hb hby dl2_10) k) ?_
  show own_Fin p.tables e below _ (T2.setTop (mkF m 11 #[.val (.ref r0)] [(.int w1)]))
  refine own_retN X2 hx hlk (t := .byte) hret (by simp) (hb hby dl2_11) ?_ (by decide) (by decide)
  exact ⟨rfl, N0, e2⟩
theorem dl4_0 : decode prog_16_method_15_code 0 = .ok (.aload_n 0, 1) := by decide +kernel
theorem dl4_1 : decode prog_16_method_15_code 1 = .ok (.getfield 7, 3) := by decide +kernel
theorem dl4_4 : decode prog_16_method_15_code 4 = .ok (.aload_n 0, 1) := by decide +kernel
theorem dl4_5 : decode prog_16_method_15_code 5 = .ok (.getfield 98, 3) := by decide +kernel
theorem dl4_8 : decode prog_16_method_15_code 8 = .ok (.iconst 1, 1) := by decide +kernel
theorem dl4_9 : decode prog_16_method_15_code 9 = .ok (.isub, 1) := by decide +kernel
theorem dl4_10 : decode prog_16_method_15_code 10 = .ok (.baload, 1) := by decide +kernel
theorem dl4_11 : decode prog_16_method_15_code 11 = .ok (.ireturn, 1) := by decide +kernel
theorem efl4 (m : MethodId) (r0 : Addr) : entryFrame m #[(.ref r0)] 1 = mkF m 0 #[.val (.ref r0)] [] := by first | (simp [entryFrame, mkF, argsToLocals, Value.category]; done) | rfl
set_option maxRecDepth 65536 in
set_option maxHeartbeats 40000000 in
theorem rml4 (l : Launch) (Z : State) (a0 : Array Value) (hw : ∀ d ∈ tables_1, d.before a0 Z = true) (ws : List Jvm.Cond) (r0 : Addr) (h0 : Heap) (n0 : Nat) (Z0 : n0 ≤ h0.size) (r5 : Addr) (k5 : ClassId) (w0 : Int32) (w1 : Int32) (w2 : Int32) (w3 : Int32) (z5 : Int32) (E_a : Exa Z h0 r0 "com/example/envelope/envelope/JsonOutput") (F_b : Fld Z h0 r0 "com/example/envelope/envelope/JsonOutput" "bytes" "[B" (.ref r5)) (F_l : Fld Z h0 r0 "com/example/envelope/envelope/JsonOutput" "length" "I" (.int (4 : Int32))) (A_t : Arv Z h0 r5 k5 .byte z5 [(.int w0), (.int w1), (.int w2), (.int w3)] (.int (0 : Int32))) (g_a : n0 ≤ r0) (g_t : n0 ≤ r5) (hq5 : ¬ z5 < (4 : Int32) ∧ z5 < 8) :
    own_Met l (⟨"com/example/envelope/envelope/JsonOutput", "last", "()B"⟩ : MethodName) prog_16_method_15_code 1 (some .byte) ({ frames := 0, cells := 0, slots := 0, locals := 0 } : Room) ws #[(.ref r0)] Z h0 0 0 (own_QP (some (.int (nar .byte w3))) h0 n0) := by
  refine own_met (plainFor_of_name pn1) ?_
  intro p e s m below meth c s₁ hx hby hml hown hnm hret hlk hZ e0 X0
  have hml : c.maxLocals = 1 := hml
  have N0 := Fr.nil n0
  have K0 := Keep.refl h0 [r0]
  refine own_go (fun _ k => castTop (efl4 m r0) k) ?_
  show own_Fin p.tables e below _ (s₁.setTop (mkF m 0 #[.val (.ref r0)] []))
  refine own_go (fun _ k => XS.aloadN X0.here hx rfl (hb hby dl4_0) rfl rfl k) ?_
  show own_Fin p.tables e below _ (s₁.setTop (mkF m 1 #[.val (.ref r0)] [(.ref r0)]))
  obtain ⟨T1, X1, e1, st1⟩ := getF X0 hx hZ hown (host := "") (Or.inl (hw _ (List.mem_of_getElem? (i := 37) rfl))) Via.refl e0 F_b (g := (mkF m 1 #[.val (.ref r0)] [(.ref r0)])) rfl rfl (hb hby dl4_1)
  refine own_go st1 ?_
  show own_Fin p.tables e below _ (T1.setTop (mkF m 4 #[.val (.ref r0)] [(.ref r5)]))
  refine own_go (fun _ k => XS.aloadN X1.here hx rfl (hb hby dl4_4) rfl rfl k) ?_
  show own_Fin p.tables e below _ (T1.setTop (mkF m 5 #[.val (.ref r0)] [(.ref r0), (.ref r5)]))
  obtain ⟨T2, X2, e2, st2⟩ := getF X1 hx hZ hown (host := "") (Or.inl (hw _ (List.mem_of_getElem? (i := 48) rfl))) Via.refl e1 F_l (g := (mkF m 5 #[.val (.ref r0)] [(.ref r0), (.ref r5)])) rfl rfl (hb hby dl4_5)
  refine own_go st2 ?_
  show own_Fin p.tables e below _ (T2.setTop (mkF m 8 #[.val (.ref r0)] [(.int (4 : Int32)), (.ref r5)]))
  refine own_go (fun _ k => XT.iconstV X2.here hx rfl (1 : Int32) (hb hby dl4_8) (by decide) k) ?_
  show own_Fin p.tables e below _ (T2.setTop (mkF m 9 #[.val (.ref r0)] [(.int (1 : Int32)), (.int (4 : Int32)), (.ref r5)]))
  refine own_go (fun _ k => XS.isub X2.here hx rfl (hb hby dl4_9) rfl k) ?_
  show own_Fin p.tables e below _ (T2.setTop (mkF m 10 #[.val (.ref r0)] [(.int ((4 : Int32) - (1 : Int32))), (.ref r5)]))
  rw [show ((4 : Int32) - (1 : Int32)) = (3 : Int32) from by decide +kernel]
  show own_Fin p.tables e below _ (T2.setTop (mkF m 10 #[.val (.ref r0)] [(.int (3 : Int32)), (.ref r5)]))
  refine own_go (fun _ k => own_bald X2 hx hZ e2 A_t (j := (3 : Int32)) (by decide) (own_lt3 hq5) (g := (mkF m 10 #[.val (.ref r0)] [(.int (3 : Int32)), (.ref r5)])) rfl (rest := []) rfl (hb hby dl4_10) k) ?_
  show own_Fin p.tables e below _ (T2.setTop (mkF m 11 #[.val (.ref r0)] [(.int w3)]))
  refine own_retN X2 hx hlk (t := .byte) hret (by simp) (hb hby dl4_11) ?_ (by decide) (by decide)
  exact ⟨rfl, N0, e2⟩
theorem dsc_0 : decode jdk_42_method_152_code 0 = .ok (.getstatic 38, 3) := by decide +kernel
theorem dsc_3 : decode jdk_42_method_152_code 3 = .ok (.ifCond .eq 10, 3) := by decide +kernel
theorem dsc_6 : decode jdk_42_method_152_code 6 = .ok (.aload_n 0, 1) := by decide +kernel
theorem dsc_7 : decode jdk_42_method_152_code 7 = .ok (.getfield 15, 3) := by decide +kernel
theorem dsc_10 : decode jdk_42_method_152_code 10 = .ok (.goto 4, 3) := by decide +kernel
theorem dsc_14 : decode jdk_42_method_152_code 14 = .ok (.ireturn, 1) := by decide +kernel
theorem pn2 : plainName "java/lang/String" = true := by first | (simp [plainName, overriddenIn]; done) | decide +kernel
theorem efsc (m : MethodId) (r0 : Addr) : entryFrame m #[(.ref r0)] 1 = mkF m 0 #[.val (.ref r0)] [] := by first | (simp [entryFrame, mkF, argsToLocals, Value.category]; done) | rfl
set_option maxRecDepth 65536 in
set_option maxHeartbeats 40000000 in
theorem rmsc (l : Launch) (Z : State) (a0 : Array Value) (hw : ∀ d ∈ tables_1, d.before a0 Z = true) (ws : List Jvm.Cond) (r0 : Addr) (h0 : Heap) (n0 : Nat) (Z0 : n0 ≤ h0.size) (r6 : Addr) (k6 : ClassId) (b0 : Int32) (b1 : Int32) (E_s : Exa Z h0 r0 "java/lang/String") (F_v : Fld Z h0 r0 "java/lang/String" "value" "[B" (.ref r6)) (F_c : Fld Z h0 r0 "java/lang/String" "coder" "B" (.int (0 : Int32))) (A_s : Arv Z h0 r6 k6 .byte (2 : Int32) [(.int b0), (.int b1)] (.int (0 : Int32))) (ic : Int32) (SC : Sta Z Z.heap "java/lang/String" "COMPACT_STRINGS" "Z" (.int ic)) (hz : ¬ ic = 0) (O0 : Old Z n0 h0) :
    own_Met l (⟨"java/lang/String", "coder", "()B"⟩ : MethodName) jdk_42_method_152_code 1 (some .byte) ({ frames := 0, cells := 0, slots := 0, locals := 0 } : Room) ws #[(.ref r0)] Z h0 0 0 (own_QP (some (.int (0 : Int32))) h0 n0) := by
  refine own_met (plainFor_of_name pn2) ?_
  intro p e s m below meth c s₁ hx hby hml hown hnm hret hlk hZ e0 X0
  have hml : c.maxLocals = 1 := hml
  have N0 := Fr.nil n0
  have K0 := Keep.refl h0 []
  refine own_go (fun _ k => castTop (efsc m r0) k) ?_
  show own_Fin p.tables e below _ (s₁.setTop (mkF m 0 #[.val (.ref r0)] []))
  obtain ⟨T1, X1, e1, st1⟩ := getS (host := "") X0 hx hZ hown (hw _ (List.mem_of_getElem? (i := 14) rfl)) Via.refl e0 (SC.ext O0.2) (g := (mkF m 0 #[.val (.ref r0)] [])) rfl (hb hby dsc_0)
  refine own_go st1 ?_
  show own_Fin p.tables e below _ (T1.setTop (mkF m 3 #[.val (.ref r0)] [(.int ic)]))
  refine own_go (fun _ k => XS.ifNo X1.here hx rfl (hb hby dsc_3) rfl (XT.i0_eq_f hz) k) ?_
  show own_Fin p.tables e below _ (T1.setTop (mkF m 6 #[.val (.ref r0)] []))
  refine own_go (fun _ k => XS.aloadN X1.here hx rfl (hb hby dsc_6) rfl rfl k) ?_
  show own_Fin p.tables e below _ (T1.setTop (mkF m 7 #[.val (.ref r0)] [(.ref r0)]))
  obtain ⟨T2, X2, e2, st2⟩ := getF X1 hx hZ hown (host := "") (Or.inl (hw _ (List.mem_of_getElem? (i := 26) rfl))) Via.refl e1 F_c (g := (mkF m 7 #[.val (.ref r0)] [(.ref r0)])) rfl rfl (hb hby dsc_7)
  refine own_go st2 ?_
  show own_Fin p.tables e below _ (T2.setTop (mkF m 10 #[.val (.ref r0)] [(.int (0 : Int32))]))
  refine own_go (fun _ k => XS.goto X2.here hx rfl (pc0 := 10) (pc' := 14) rfl (hb hby dsc_10) (by decide) (by decide) k) ?_
  show own_Fin p.tables e below _ (T2.setTop (mkF m 14 #[.val (.ref r0)] [(.int (0 : Int32))]))
  refine own_retN X2 hx hlk (t := .byte) hret (by simp) (hb hby dsc_14) ?_ (by decide) (by decide)
  exact ⟨rfl, N0, e2⟩
theorem dsl_0 : decode jdk_42_method_154_code 0 = .ok (.getstatic 38, 3) := by decide +kernel
theorem dsl_3 : decode jdk_42_method_154_code 3 = .ok (.ifCond .eq 14, 3) := by decide +kernel
theorem dsl_6 : decode jdk_42_method_154_code 6 = .ok (.aload_n 0, 1) := by decide +kernel
theorem dsl_7 : decode jdk_42_method_154_code 7 = .ok (.getfield 15, 3) := by decide +kernel
theorem dsl_10 : decode jdk_42_method_154_code 10 = .ok (.ifCond .ne 7, 3) := by decide +kernel
theorem dsl_13 : decode jdk_42_method_154_code 13 = .ok (.iconst 1, 1) := by decide +kernel
theorem dsl_14 : decode jdk_42_method_154_code 14 = .ok (.goto 4, 3) := by decide +kernel
theorem dsl_18 : decode jdk_42_method_154_code 18 = .ok (.ireturn, 1) := by decide +kernel
theorem pd7 : parseMethodDescriptor "()Z" = some ⟨[], some .boolean⟩ := by decide +kernel
theorem efsl (m : MethodId) (r0 : Addr) : entryFrame m #[(.ref r0)] 1 = mkF m 0 #[.val (.ref r0)] [] := by first | (simp [entryFrame, mkF, argsToLocals, Value.category]; done) | rfl
set_option maxRecDepth 65536 in
set_option maxHeartbeats 40000000 in
theorem rmsl (l : Launch) (Z : State) (a0 : Array Value) (hw : ∀ d ∈ tables_1, d.before a0 Z = true) (ws : List Jvm.Cond) (r0 : Addr) (h0 : Heap) (n0 : Nat) (Z0 : n0 ≤ h0.size) (r6 : Addr) (k6 : ClassId) (b0 : Int32) (b1 : Int32) (E_s : Exa Z h0 r0 "java/lang/String") (F_v : Fld Z h0 r0 "java/lang/String" "value" "[B" (.ref r6)) (F_c : Fld Z h0 r0 "java/lang/String" "coder" "B" (.int (0 : Int32))) (A_s : Arv Z h0 r6 k6 .byte (2 : Int32) [(.int b0), (.int b1)] (.int (0 : Int32))) (ic : Int32) (SC : Sta Z Z.heap "java/lang/String" "COMPACT_STRINGS" "Z" (.int ic)) (hz : ¬ ic = 0) (O0 : Old Z n0 h0) :
    own_Met l (⟨"java/lang/String", "isLatin1", "()Z"⟩ : MethodName) jdk_42_method_154_code 1 (some .boolean) ({ frames := 0, cells := 0, slots := 0, locals := 0 } : Room) ws #[(.ref r0)] Z h0 0 0 (own_QP (some (.int (1 : Int32))) h0 n0) := by
  refine own_met (plainFor_of_name pn2) ?_
  intro p e s m below meth c s₁ hx hby hml hown hnm hret hlk hZ e0 X0
  have hml : c.maxLocals = 1 := hml
  have N0 := Fr.nil n0
  have K0 := Keep.refl h0 []
  refine own_go (fun _ k => castTop (efsl m r0) k) ?_
  show own_Fin p.tables e below _ (s₁.setTop (mkF m 0 #[.val (.ref r0)] []))
  obtain ⟨T1, X1, e1, st1⟩ := getS (host := "") X0 hx hZ hown (hw _ (List.mem_of_getElem? (i := 14) rfl)) Via.refl e0 (SC.ext O0.2) (g := (mkF m 0 #[.val (.ref r0)] [])) rfl (hb hby dsl_0)
  refine own_go st1 ?_
  show own_Fin p.tables e below _ (T1.setTop (mkF m 3 #[.val (.ref r0)] [(.int ic)]))
  refine own_go (fun _ k => XS.ifNo X1.here hx rfl (hb hby dsl_3) rfl (XT.i0_eq_f hz) k) ?_
  show own_Fin p.tables e below _ (T1.setTop (mkF m 6 #[.val (.ref r0)] []))
  refine own_go (fun _ k => XS.aloadN X1.here hx rfl (hb hby dsl_6) rfl rfl k) ?_
  show own_Fin p.tables e below _ (T1.setTop (mkF m 7 #[.val (.ref r0)] [(.ref r0)]))
  obtain ⟨T2, X2, e2, st2⟩ := getF X1 hx hZ hown (host := "") (Or.inl (hw _ (List.mem_of_getElem? (i := 26) rfl))) Via.refl e1 F_c (g := (mkF m 7 #[.val (.ref r0)] [(.ref r0)])) rfl rfl (hb hby dsl_7)
  refine own_go st2 ?_
  show own_Fin p.tables e below _ (T2.setTop (mkF m 10 #[.val (.ref r0)] [(.int (0 : Int32))]))
  refine own_go (fun _ k => XS.ifNo X2.here hx rfl (hb hby dsl_10) rfl (XT.i0_ne_f (by decide)) k) ?_
  show own_Fin p.tables e below _ (T2.setTop (mkF m 13 #[.val (.ref r0)] []))
  refine own_go (fun _ k => XT.iconstV X2.here hx rfl (1 : Int32) (hb hby dsl_13) (by decide) k) ?_
  show own_Fin p.tables e below _ (T2.setTop (mkF m 14 #[.val (.ref r0)] [(.int (1 : Int32))]))
  refine own_go (fun _ k => XS.goto X2.here hx rfl (pc0 := 14) (pc' := 18) rfl (hb hby dsl_14) (by decide) (by decide) k) ?_
  show own_Fin p.tables e below _ (T2.setTop (mkF m 18 #[.val (.ref r0)] [(.int (1 : Int32))]))
  refine own_retN X2 hx hlk (t := .boolean) hret (by simp) (hb hby dsl_18) ?_ (by decide) (by decide)
  exact ⟨rfl, N0, e2⟩
theorem dsn_0 : decode jdk_42_method_54_code 0 = .ok (.aload_n 0, 1) := by decide +kernel
theorem dsn_1 : decode jdk_42_method_54_code 1 = .ok (.getfield 9, 3) := by decide +kernel
theorem dsn_4 : decode jdk_42_method_54_code 4 = .ok (.arraylength, 1) := by decide +kernel
theorem dsn_5 : decode jdk_42_method_54_code 5 = .ok (.aload_n 0, 1) := by decide +kernel
theorem dsn_6 : decode jdk_42_method_54_code 6 = .ok (.invokevirtual 335, 3) := by decide +kernel
theorem dsn_9 : decode jdk_42_method_54_code 9 = .ok (.ishr, 1) := by decide +kernel
theorem dsn_10 : decode jdk_42_method_54_code 10 = .ok (.ireturn, 1) := by decide +kernel
theorem pd8 : parseMethodDescriptor "()I" = some ⟨[], some .int⟩ := by decide +kernel
theorem efsn (m : MethodId) (r0 : Addr) : entryFrame m #[(.ref r0)] 1 = mkF m 0 #[.val (.ref r0)] [] := by first | (simp [entryFrame, mkF, argsToLocals, Value.category]; done) | rfl
set_option maxRecDepth 65536 in
set_option maxHeartbeats 40000000 in
theorem rmsn (l : Launch) (Z : State) (a0 : Array Value) (hw : ∀ d ∈ tables_1, d.before a0 Z = true) (ws : List Jvm.Cond) (r0 : Addr) (h0 : Heap) (n0 : Nat) (Z0 : n0 ≤ h0.size) (r6 : Addr) (k6 : ClassId) (b0 : Int32) (b1 : Int32) (E_s : Exa Z h0 r0 "java/lang/String") (F_v : Fld Z h0 r0 "java/lang/String" "value" "[B" (.ref r6)) (F_c : Fld Z h0 r0 "java/lang/String" "coder" "B" (.int (0 : Int32))) (A_s : Arv Z h0 r6 k6 .byte (2 : Int32) [(.int b0), (.int b1)] (.int (0 : Int32))) (ic : Int32) (SC : Sta Z Z.heap "java/lang/String" "COMPACT_STRINGS" "Z" (.int ic)) (hz : ¬ ic = 0) (O0 : Old Z n0 h0) :
    own_Met l (⟨"java/lang/String", "length", "()I"⟩ : MethodName) jdk_42_method_54_code 1 (some .int) ({ frames := 1, cells := 0, slots := 0, locals := 13 } : Room) ws #[(.ref r0)] Z h0 0 0 (own_QP (some (.int (2 : Int32))) h0 n0) := by
  refine own_met (plainFor_of_name pn2) ?_
  intro p e s m below meth c s₁ hx hby hml hown hnm hret hlk hZ e0 X0
  have hml : c.maxLocals = 1 := hml
  have N0 := Fr.nil n0
  have K0 := Keep.refl h0 []
  refine own_go (fun _ k => castTop (efsn m r0) k) ?_
  show own_Fin p.tables e below _ (s₁.setTop (mkF m 0 #[.val (.ref r0)] []))
  refine own_go (fun _ k => XS.aloadN X0.here hx rfl (hb hby dsn_0) rfl rfl k) ?_
  show own_Fin p.tables e below _ (s₁.setTop (mkF m 1 #[.val (.ref r0)] [(.ref r0)]))
  obtain ⟨T1, X1, e1, st1⟩ := getF X0 hx hZ hown (host := "") (Or.inl (hw _ (List.mem_of_getElem? (i := 28) rfl))) Via.refl e0 F_v (g := (mkF m 1 #[.val (.ref r0)] [(.ref r0)])) rfl rfl (hb hby dsn_1)
  refine own_go st1 ?_
  show own_Fin p.tables e below _ (T1.setTop (mkF m 4 #[.val (.ref r0)] [(.ref r6)]))
  refine own_go (fun _ k => own_alen X1 hx hZ e1 A_s (g := (mkF m 4 #[.val (.ref r0)] [(.ref r6)])) rfl (rest := []) rfl (hb hby dsn_4) k) ?_
  show own_Fin p.tables e below _ (T1.setTop (mkF m 5 #[.val (.ref r0)] [(.int (2 : Int32))]))
  refine own_go (fun _ k => XS.aloadN X1.here hx rfl (hb hby dsn_5) rfl rfl k) ?_
  show own_Fin p.tables e below _ (T1.setTop (mkF m 6 #[.val (.ref r0)] [(.ref r0), (.int (2 : Int32))]))
  obtain ⟨_, T2, L2, X2, ⟨rfl, M2, e2⟩, st2⟩ := own_callV X1 hx hZ hown (hw _ (List.mem_of_getElem? (i := 86) rfl)) (hw _ (List.mem_of_getElem? (i := 87) rfl)) (hw _ (List.mem_of_getElem? (i := 89) rfl)) (hw _ (List.mem_of_getElem? (i := 88) rfl)) (hw _ (List.mem_of_getElem? (i := 3) rfl)) (hw _ (List.mem_of_getElem? (i := 90) rfl)) (by decide) (W := 1) (rmsc l Z a0 hw [] r0 h0 n0 (Nat.le_trans Z0 K0.1) r6 k6 b0 b1 E_s F_v F_c A_s ic SC hz O0) (by decide) (by decide) e1 E_s (g := (mkF m 6 #[.val (.ref r0)] [(.ref r0), (.int (2 : Int32))])) rfl (by rw [hml]; rfl) (argsL := []) (rest := [(.int (2 : Int32))]) rfl (lenOf pd6 rfl) rfl (by show 2 * 0 + _ ≤ _; exact Nat.le_of_eq rfl) (hb hby dsn_6) (by decide) (by decide)
  have N2 := Fr.app N0 M2
  refine own_go st2 ?_
  show own_Fin p.tables e below _ (T2.setTop (mkF m 9 #[.val (.ref r0)] [(.int (0 : Int32)), (.int (2 : Int32))]))
  refine own_go (fun _ k => XT.ishr X2.here hx rfl (hb hby dsn_9) rfl k) ?_
  show own_Fin p.tables e below _ (T2.setTop (mkF m 10 #[.val (.ref r0)] [(.int ((2 : Int32) >>> ((0 : Int32) &&& 31)))]))
  rw [show ((2 : Int32) >>> ((0 : Int32) &&& 31)) = (2 : Int32) from by decide +kernel]
  show own_Fin p.tables e below _ (T2.setTop (mkF m 10 #[.val (.ref r0)] [(.int (2 : Int32))]))
  refine own_retI X2 hx hlk hret (hb hby dsn_10) ?_ (by decide) (by decide)
  exact ⟨rfl, N2, e2⟩
theorem dpf_0 : decode jdk_41_method_12_code 0 = .ok (.iload_n 0, 1) := by decide +kernel
theorem dpf_1 : decode jdk_41_method_12_code 1 = .ok (.ifCond .lt 13, 3) := by decide +kernel
theorem dpf_4 : decode jdk_41_method_12_code 4 = .ok (.iload_n 0, 1) := by decide +kernel
theorem dpf_5 : decode jdk_41_method_12_code 5 = .ok (.iload_n 1, 1) := by decide +kernel
theorem dpf_6 : decode jdk_41_method_12_code 6 = .ok (.if_icmp .gt 8, 3) := by decide +kernel
theorem dpf_9 : decode jdk_41_method_12_code 9 = .ok (.iload_n 1, 1) := by decide +kernel
theorem dpf_10 : decode jdk_41_method_12_code 10 = .ok (.iload_n 2, 1) := by decide +kernel
theorem dpf_11 : decode jdk_41_method_12_code 11 = .ok (.if_icmp .le 11, 3) := by decide +kernel
theorem dpf_22 : decode jdk_41_method_12_code 22 = .ok (.iload_n 0, 1) := by decide +kernel
theorem dpf_23 : decode jdk_41_method_12_code 23 = .ok (.ireturn, 1) := by decide +kernel
theorem pn3 : plainName "jdk/internal/util/Preconditions" = true := by first | (simp [plainName, overriddenIn]; done) | decide +kernel
theorem pd9 : parseMethodDescriptor "(IIILjava/util/function/BiFunction;)I" = some ⟨[.int, .int, .int, (.object "java/util/function/BiFunction")], some .int⟩ := by decide +kernel
theorem efpf (m : MethodId) (fm : Value) (rf : fm.isRef = true) : entryFrame m #[(.int (0 : Int32)), (.int (2 : Int32)), (.int (2 : Int32)), fm] 4 = mkF m 0 #[.val (.int (0 : Int32)), .val (.int (2 : Int32)), .val (.int (2 : Int32)), .val fm] [] := by cases fm <;> first | (simp [entryFrame, mkF, argsToLocals, Value.category]; done) | rfl | (first | cases rf)
set_option maxRecDepth 65536 in
set_option maxHeartbeats 40000000 in
theorem rmpf (l : Launch) (Z : State) (a0 : Array Value) (hw : ∀ d ∈ tables_1, d.before a0 Z = true) (ws : List Jvm.Cond) (fm : Value) (h0 : Heap) (n0 : Nat) (Z0 : n0 ≤ h0.size) (rf : fm.isRef = true) :
    own_Met l (⟨"jdk/internal/util/Preconditions", "checkFromToIndex", "(IIILjava/util/function/BiFunction;)I"⟩ : MethodName) jdk_41_method_12_code 4 (some .int) ({ frames := 0, cells := 0, slots := 0, locals := 0 } : Room) ws #[(.int (0 : Int32)), (.int (2 : Int32)), (.int (2 : Int32)), fm] Z h0 0 0 (own_QP (some (.int (0 : Int32))) h0 n0) := by
  refine own_met (plainFor_of_name pn3) ?_
  intro p e s m below meth c s₁ hx hby hml hown hnm hret hlk hZ e0 X0
  have hml : c.maxLocals = 4 := hml
  have N0 := Fr.nil n0
  have K0 := Keep.refl h0 []
  refine own_go (fun _ k => castTop (efpf m fm rf) k) ?_
  show own_Fin p.tables e below _ (s₁.setTop (mkF m 0 #[.val (.int (0 : Int32)), .val (.int (2 : Int32)), .val (.int (2 : Int32)), .val fm] []))
  refine own_go (fun _ k => XS.iloadN X0.here hx rfl (hb hby dpf_0) rfl k) ?_
  show own_Fin p.tables e below _ (s₁.setTop (mkF m 1 #[.val (.int (0 : Int32)), .val (.int (2 : Int32)), .val (.int (2 : Int32)), .val fm] [(.int (0 : Int32))]))
  refine own_go (fun _ k => XS.ifNo X0.here hx rfl (hb hby dpf_1) rfl (XT.i0_lt_f (by decide)) k) ?_
  show own_Fin p.tables e below _ (s₁.setTop (mkF m 4 #[.val (.int (0 : Int32)), .val (.int (2 : Int32)), .val (.int (2 : Int32)), .val fm] []))
  refine own_go (fun _ k => XS.iloadN X0.here hx rfl (hb hby dpf_4) rfl k) ?_
  show own_Fin p.tables e below _ (s₁.setTop (mkF m 5 #[.val (.int (0 : Int32)), .val (.int (2 : Int32)), .val (.int (2 : Int32)), .val fm] [(.int (0 : Int32))]))
  refine own_go (fun _ k => XS.iloadN X0.here hx rfl (hb hby dpf_5) rfl k) ?_
  show own_Fin p.tables e below _ (s₁.setTop (mkF m 6 #[.val (.int (0 : Int32)), .val (.int (2 : Int32)), .val (.int (2 : Int32)), .val fm] [(.int (2 : Int32)), (.int (0 : Int32))]))
  refine own_go (fun _ k => XS.icmpNo X0.here hx rfl (hb hby dpf_6) rfl (XT.ii_gt_f (by decide)) k) ?_
  show own_Fin p.tables e below _ (s₁.setTop (mkF m 9 #[.val (.int (0 : Int32)), .val (.int (2 : Int32)), .val (.int (2 : Int32)), .val fm] []))
  refine own_go (fun _ k => XS.iloadN X0.here hx rfl (hb hby dpf_9) rfl k) ?_
  show own_Fin p.tables e below _ (s₁.setTop (mkF m 10 #[.val (.int (0 : Int32)), .val (.int (2 : Int32)), .val (.int (2 : Int32)), .val fm] [(.int (2 : Int32))]))
  refine own_go (fun _ k => XS.iloadN X0.here hx rfl (hb hby dpf_10) rfl k) ?_
  show own_Fin p.tables e below _ (s₁.setTop (mkF m 11 #[.val (.int (0 : Int32)), .val (.int (2 : Int32)), .val (.int (2 : Int32)), .val fm] [(.int (2 : Int32)), (.int (2 : Int32))]))
  refine own_go (fun _ k => XS.icmpYes X0.here hx rfl (pc0 := 11) (pc' := 22) rfl (hb hby dpf_11) rfl (XT.ii_le_t (by decide)) (by decide) (by decide) k) ?_
  show own_Fin p.tables e below _ (s₁.setTop (mkF m 22 #[.val (.int (0 : Int32)), .val (.int (2 : Int32)), .val (.int (2 : Int32)), .val fm] []))
  refine own_go (fun _ k => XS.iloadN X0.here hx rfl (hb hby dpf_22) rfl k) ?_
  show own_Fin p.tables e below _ (s₁.setTop (mkF m 23 #[.val (.int (0 : Int32)), .val (.int (2 : Int32)), .val (.int (2 : Int32)), .val fm] [(.int (0 : Int32))]))
  refine own_retI X0 hx hlk hret (hb hby dpf_23) ?_ (by decide) (by decide)
  exact ⟨rfl, N0, e0⟩
theorem dpb_0 : decode jdk_42_method_158_code 0 = .ok (.iload_n 0, 1) := by decide +kernel
theorem dpb_1 : decode jdk_42_method_158_code 1 = .ok (.iload_n 1, 1) := by decide +kernel
theorem dpb_2 : decode jdk_42_method_158_code 2 = .ok (.iload_n 2, 1) := by decide +kernel
theorem dpb_3 : decode jdk_42_method_158_code 3 = .ok (.getstatic 1053, 3) := by decide +kernel
theorem dpb_6 : decode jdk_42_method_158_code 6 = .ok (.invokestatic 1062, 3) := by decide +kernel
theorem dpb_9 : decode jdk_42_method_158_code 9 = .ok (.pop, 1) := by decide +kernel
theorem dpb_10 : decode jdk_42_method_158_code 10 = .ok (.return_, 1) := by decide +kernel
theorem pd10 : parseMethodDescriptor "(III)V" = some ⟨[.int, .int, .int], none⟩ := by decide +kernel
theorem efpb (m : MethodId)  : entryFrame m #[(.int (0 : Int32)), (.int (2 : Int32)), (.int (2 : Int32))] 3 = mkF m 0 #[.val (.int (0 : Int32)), .val (.int (2 : Int32)), .val (.int (2 : Int32))] [] := by first | (simp [entryFrame, mkF, argsToLocals, Value.category]; done) | rfl
set_option maxRecDepth 65536 in
set_option maxHeartbeats 40000000 in
theorem rmpb (l : Launch) (Z : State) (a0 : Array Value) (hw : ∀ d ∈ tables_1, d.before a0 Z = true) (ws : List Jvm.Cond)  (h0 : Heap) (n0 : Nat) (Z0 : n0 ≤ h0.size) (ic : Int32) (SC : Sta Z Z.heap "java/lang/String" "COMPACT_STRINGS" "Z" (.int ic)) (hz : ¬ ic = 0) (O0 : Old Z n0 h0) (fm : Value) (SF : Sta Z Z.heap "jdk/internal/util/Preconditions" "SIOOBE_FORMATTER" "Ljava/util/function/BiFunction;" fm) (rf : fm.isRef = true) :
    own_Met l (⟨"java/lang/String", "checkBoundsBeginEnd", "(III)V"⟩ : MethodName) jdk_42_method_158_code 3 none ({ frames := 1, cells := 0, slots := 0, locals := 15 } : Room) ws #[(.int (0 : Int32)), (.int (2 : Int32)), (.int (2 : Int32))] Z h0 0 0 (own_QP none h0 n0) := by
  refine own_met (plainFor_of_name pn2) ?_
  intro p e s m below meth c s₁ hx hby hml hown hnm hret hlk hZ e0 X0
  have hml : c.maxLocals = 3 := hml
  have N0 := Fr.nil n0
  have K0 := Keep.refl h0 []
  refine own_go (fun _ k => castTop (efpb m ) k) ?_
  show own_Fin p.tables e below _ (s₁.setTop (mkF m 0 #[.val (.int (0 : Int32)), .val (.int (2 : Int32)), .val (.int (2 : Int32))] []))
  refine own_go (fun _ k => XS.iloadN X0.here hx rfl (hb hby dpb_0) rfl k) ?_
  show own_Fin p.tables e below _ (s₁.setTop (mkF m 1 #[.val (.int (0 : Int32)), .val (.int (2 : Int32)), .val (.int (2 : Int32))] [(.int (0 : Int32))]))
  refine own_go (fun _ k => XS.iloadN X0.here hx rfl (hb hby dpb_1) rfl k) ?_
  show own_Fin p.tables e below _ (s₁.setTop (mkF m 2 #[.val (.int (0 : Int32)), .val (.int (2 : Int32)), .val (.int (2 : Int32))] [(.int (2 : Int32)), (.int (0 : Int32))]))
  refine own_go (fun _ k => XS.iloadN X0.here hx rfl (hb hby dpb_2) rfl k) ?_
  show own_Fin p.tables e below _ (s₁.setTop (mkF m 3 #[.val (.int (0 : Int32)), .val (.int (2 : Int32)), .val (.int (2 : Int32))] [(.int (2 : Int32)), (.int (2 : Int32)), (.int (0 : Int32))]))
  obtain ⟨T1, X1, e1, st1⟩ := getS (host := "") X0 hx hZ hown (hw _ (List.mem_of_getElem? (i := 104) rfl)) Via.refl e0 (SF.ext O0.2) (g := (mkF m 3 #[.val (.int (0 : Int32)), .val (.int (2 : Int32)), .val (.int (2 : Int32))] [(.int (2 : Int32)), (.int (2 : Int32)), (.int (0 : Int32))])) rfl (hb hby dpb_3)
  refine own_go st1 ?_
  show own_Fin p.tables e below _ (T1.setTop (mkF m 6 #[.val (.int (0 : Int32)), .val (.int (2 : Int32)), .val (.int (2 : Int32))] [fm, (.int (2 : Int32)), (.int (2 : Int32)), (.int (0 : Int32))]))
  obtain ⟨_, T2, L2, X2, ⟨rfl, M2, e2⟩, st2⟩ := own_callS X1 hx hZ hown (hw _ (List.mem_of_getElem? (i := 106) rfl)) (hw _ (List.mem_of_getElem? (i := 107) rfl)) (hw _ (List.mem_of_getElem? (i := 105) rfl)) (hw _ (List.mem_of_getElem? (i := 108) rfl)) (by decide) (W := 0) (rmpf l Z a0 hw [] fm h0 n0 (Nat.le_trans Z0 K0.1) rf) (by decide) (by decide) e1 (g := (mkF m 6 #[.val (.int (0 : Int32)), .val (.int (2 : Int32)), .val (.int (2 : Int32))] [fm, (.int (2 : Int32)), (.int (2 : Int32)), (.int (0 : Int32))])) rfl (by rw [hml]; rfl) (argsL := [(.int (0 : Int32)), (.int (2 : Int32)), (.int (2 : Int32)), fm]) (rest := []) rfl (lenOf pd9 rfl) rfl (by show 2 * 0 + _ ≤ _; exact Nat.le_of_eq rfl) (hb hby dpb_6) (by decide) (by decide)
  have N2 := Fr.app N0 M2
  refine own_go st2 ?_
  show own_Fin p.tables e below _ (T2.setTop (mkF m 9 #[.val (.int (0 : Int32)), .val (.int (2 : Int32)), .val (.int (2 : Int32))] [(.int (0 : Int32))]))
  refine own_go (fun _ k => XT.pop X2.here hx rfl (hb hby dpb_9) rfl rfl k) ?_
  show own_Fin p.tables e below _ (T2.setTop (mkF m 10 #[.val (.int (0 : Int32)), .val (.int (2 : Int32)), .val (.int (2 : Int32))] []))
  refine own_retV X2 hx hlk hret (hb hby dpb_10) ?_ (by decide) (by decide)
  exact ⟨rfl, N2, e2⟩
theorem dpo_0 : decode jdk_31_method_10_code 0 = .ok (.aload_n 0, 1) := by decide +kernel
theorem dpo_1 : decode jdk_31_method_10_code 1 = .ok (.ifnonnull 11, 3) := by decide +kernel
theorem dpo_12 : decode jdk_31_method_10_code 12 = .ok (.aload_n 0, 1) := by decide +kernel
theorem dpo_13 : decode jdk_31_method_10_code 13 = .ok (.areturn, 1) := by decide +kernel
theorem pn4 : plainName "java/util/Objects" = true := by first | (simp [plainName, overriddenIn]; done) | decide +kernel
theorem pd11 : parseMethodDescriptor "(Ljava/lang/Object;)Ljava/lang/Object;" = some ⟨[(.object "java/lang/Object")], some (.object "java/lang/Object")⟩ := by decide +kernel
theorem efpo (m : MethodId) (r0 : Addr) : entryFrame m #[(.ref r0)] 1 = mkF m 0 #[.val (.ref r0)] [] := by first | (simp [entryFrame, mkF, argsToLocals, Value.category]; done) | rfl
set_option maxRecDepth 65536 in
set_option maxHeartbeats 40000000 in
theorem rmpo (l : Launch) (Z : State) (a0 : Array Value) (hw : ∀ d ∈ tables_1, d.before a0 Z = true) (ws : List Jvm.Cond) (r0 : Addr) (h0 : Heap) (n0 : Nat) (Z0 : n0 ≤ h0.size)  :
    own_Met l (⟨"java/util/Objects", "requireNonNull", "(Ljava/lang/Object;)Ljava/lang/Object;"⟩ : MethodName) jdk_31_method_10_code 1 (some (.object "java/lang/Object")) ({ frames := 0, cells := 0, slots := 0, locals := 0 } : Room) ws #[(.ref r0)] Z h0 0 0 (own_QP (some (.ref r0)) h0 n0) := by
  refine own_met (plainFor_of_name pn4) ?_
  intro p e s m below meth c s₁ hx hby hml hown hnm hret hlk hZ e0 X0
  have hml : c.maxLocals = 1 := hml
  have N0 := Fr.nil n0
  have K0 := Keep.refl h0 []
  refine own_go (fun _ k => castTop (efpo m r0) k) ?_
  show own_Fin p.tables e below _ (s₁.setTop (mkF m 0 #[.val (.ref r0)] []))
  refine own_go (fun _ k => XS.aloadN X0.here hx rfl (hb hby dpo_0) rfl rfl k) ?_
  show own_Fin p.tables e below _ (s₁.setTop (mkF m 1 #[.val (.ref r0)] [(.ref r0)]))
  refine own_go (fun _ k => XT.ifnonnullYes X0.here hx rfl (pc0 := 1) (pc' := 12) rfl (hb hby dpo_1) rfl (by decide) (by decide) k) ?_
  show own_Fin p.tables e below _ (s₁.setTop (mkF m 12 #[.val (.ref r0)] []))
  refine own_go (fun _ k => XS.aloadN X0.here hx rfl (hb hby dpo_12) rfl rfl k) ?_
  show own_Fin p.tables e below _ (s₁.setTop (mkF m 13 #[.val (.ref r0)] [(.ref r0)]))
  refine own_retA X0 hx hlk hret rfl rfl (hb hby dpo_13) ?_ (by decide) (by decide)
  exact ⟨rfl, N0, e0⟩
theorem dps_0 : decode jdk_41_method_13_code 0 = .ok (.iload_n 2, 1) := by decide +kernel
theorem dps_1 : decode jdk_41_method_13_code 1 = .ok (.iload_n 0, 1) := by decide +kernel
theorem dps_2 : decode jdk_41_method_13_code 2 = .ok (.ior, 1) := by decide +kernel
theorem dps_3 : decode jdk_41_method_13_code 3 = .ok (.iload_n 1, 1) := by decide +kernel
theorem dps_4 : decode jdk_41_method_13_code 4 = .ok (.ior, 1) := by decide +kernel
theorem dps_5 : decode jdk_41_method_13_code 5 = .ok (.ifCond .lt 10, 3) := by decide +kernel
theorem dps_8 : decode jdk_41_method_13_code 8 = .ok (.iload_n 1, 1) := by decide +kernel
theorem dps_9 : decode jdk_41_method_13_code 9 = .ok (.iload_n 2, 1) := by decide +kernel
theorem dps_10 : decode jdk_41_method_13_code 10 = .ok (.iload_n 0, 1) := by decide +kernel
theorem dps_11 : decode jdk_41_method_13_code 11 = .ok (.isub, 1) := by decide +kernel
theorem dps_12 : decode jdk_41_method_13_code 12 = .ok (.if_icmp .le 11, 3) := by decide +kernel
theorem dps_23 : decode jdk_41_method_13_code 23 = .ok (.iload_n 0, 1) := by decide +kernel
theorem dps_24 : decode jdk_41_method_13_code 24 = .ok (.ireturn, 1) := by decide +kernel
theorem efps (m : MethodId) (i3 : Int32) (fm : Value) (rf : fm.isRef = true) : entryFrame m #[(.int (2 : Int32)), (.int (2 : Int32)), (.int i3), fm] 4 = mkF m 0 #[.val (.int (2 : Int32)), .val (.int (2 : Int32)), .val (.int i3), .val fm] [] := by cases fm <;> first | (simp [entryFrame, mkF, argsToLocals, Value.category]; done) | rfl | (first | cases rf)
set_option maxRecDepth 65536 in
set_option maxHeartbeats 40000000 in
theorem rmps (l : Launch) (Z : State) (a0 : Array Value) (hw : ∀ d ∈ tables_1, d.before a0 Z = true) (ws : List Jvm.Cond) (i3 : Int32) (fm : Value) (h0 : Heap) (n0 : Nat) (Z0 : n0 ≤ h0.size) (rf : fm.isRef = true) (hp1 : ¬ ((i3 ||| (2 : Int32)) ||| (2 : Int32)) < (0 : Int32)) (hp2 : ¬ (i3 - (2 : Int32)) < (2 : Int32)) :
    own_Met l (⟨"jdk/internal/util/Preconditions", "checkFromIndexSize", "(IIILjava/util/function/BiFunction;)I"⟩ : MethodName) jdk_41_method_13_code 4 (some .int) ({ frames := 0, cells := 0, slots := 0, locals := 0 } : Room) ws #[(.int (2 : Int32)), (.int (2 : Int32)), (.int i3), fm] Z h0 0 0 (own_QP (some (.int (2 : Int32))) h0 n0) := by
  refine own_met (plainFor_of_name pn3) ?_
  intro p e s m below meth c s₁ hx hby hml hown hnm hret hlk hZ e0 X0
  have hml : c.maxLocals = 4 := hml
  have N0 := Fr.nil n0
  have K0 := Keep.refl h0 []
  refine own_go (fun _ k => castTop (efps m i3 fm rf) k) ?_
  show own_Fin p.tables e below _ (s₁.setTop (mkF m 0 #[.val (.int (2 : Int32)), .val (.int (2 : Int32)), .val (.int i3), .val fm] []))
  refine own_go (fun _ k => XS.iloadN X0.here hx rfl (hb hby dps_0) rfl k) ?_
  show own_Fin p.tables e below _ (s₁.setTop (mkF m 1 #[.val (.int (2 : Int32)), .val (.int (2 : Int32)), .val (.int i3), .val fm] [(.int i3)]))
  refine own_go (fun _ k => XS.iloadN X0.here hx rfl (hb hby dps_1) rfl k) ?_
  show own_Fin p.tables e below _ (s₁.setTop (mkF m 2 #[.val (.int (2 : Int32)), .val (.int (2 : Int32)), .val (.int i3), .val fm] [(.int (2 : Int32)), (.int i3)]))
  refine own_go (fun _ k => XT.ior X0.here hx rfl (hb hby dps_2) rfl k) ?_
  show own_Fin p.tables e below _ (s₁.setTop (mkF m 3 #[.val (.int (2 : Int32)), .val (.int (2 : Int32)), .val (.int i3), .val fm] [(.int (i3 ||| (2 : Int32)))]))
  refine own_go (fun _ k => XS.iloadN X0.here hx rfl (hb hby dps_3) rfl k) ?_
  show own_Fin p.tables e below _ (s₁.setTop (mkF m 4 #[.val (.int (2 : Int32)), .val (.int (2 : Int32)), .val (.int i3), .val fm] [(.int (2 : Int32)), (.int (i3 ||| (2 : Int32)))]))
  refine own_go (fun _ k => XT.ior X0.here hx rfl (hb hby dps_4) rfl k) ?_
  show own_Fin p.tables e below _ (s₁.setTop (mkF m 5 #[.val (.int (2 : Int32)), .val (.int (2 : Int32)), .val (.int i3), .val fm] [(.int ((i3 ||| (2 : Int32)) ||| (2 : Int32)))]))
  refine own_go (fun _ k => XS.ifNo X0.here hx rfl (hb hby dps_5) rfl (XT.i0_lt_f hp1) k) ?_
  show own_Fin p.tables e below _ (s₁.setTop (mkF m 8 #[.val (.int (2 : Int32)), .val (.int (2 : Int32)), .val (.int i3), .val fm] []))
  refine own_go (fun _ k => XS.iloadN X0.here hx rfl (hb hby dps_8) rfl k) ?_
  show own_Fin p.tables e below _ (s₁.setTop (mkF m 9 #[.val (.int (2 : Int32)), .val (.int (2 : Int32)), .val (.int i3), .val fm] [(.int (2 : Int32))]))
  refine own_go (fun _ k => XS.iloadN X0.here hx rfl (hb hby dps_9) rfl k) ?_
  show own_Fin p.tables e below _ (s₁.setTop (mkF m 10 #[.val (.int (2 : Int32)), .val (.int (2 : Int32)), .val (.int i3), .val fm] [(.int i3), (.int (2 : Int32))]))
  refine own_go (fun _ k => XS.iloadN X0.here hx rfl (hb hby dps_10) rfl k) ?_
  show own_Fin p.tables e below _ (s₁.setTop (mkF m 11 #[.val (.int (2 : Int32)), .val (.int (2 : Int32)), .val (.int i3), .val fm] [(.int (2 : Int32)), (.int i3), (.int (2 : Int32))]))
  refine own_go (fun _ k => XS.isub X0.here hx rfl (hb hby dps_11) rfl k) ?_
  show own_Fin p.tables e below _ (s₁.setTop (mkF m 12 #[.val (.int (2 : Int32)), .val (.int (2 : Int32)), .val (.int i3), .val fm] [(.int (i3 - (2 : Int32))), (.int (2 : Int32))]))
  refine own_go (fun _ k => XS.icmpYes X0.here hx rfl (pc0 := 12) (pc' := 23) rfl (hb hby dps_12) rfl (XT.ii_le_t hp2) (by decide) (by decide) k) ?_
  show own_Fin p.tables e below _ (s₁.setTop (mkF m 23 #[.val (.int (2 : Int32)), .val (.int (2 : Int32)), .val (.int i3), .val fm] []))
  refine own_go (fun _ k => XS.iloadN X0.here hx rfl (hb hby dps_23) rfl k) ?_
  show own_Fin p.tables e below _ (s₁.setTop (mkF m 24 #[.val (.int (2 : Int32)), .val (.int (2 : Int32)), .val (.int i3), .val fm] [(.int (2 : Int32))]))
  refine own_retI X0 hx hlk hret (hb hby dps_24) ?_ (by decide) (by decide)
  exact ⟨rfl, N0, e0⟩
theorem dpc_0 : decode jdk_42_method_157_code 0 = .ok (.iload_n 0, 1) := by decide +kernel
theorem dpc_1 : decode jdk_42_method_157_code 1 = .ok (.iload_n 1, 1) := by decide +kernel
theorem dpc_2 : decode jdk_42_method_157_code 2 = .ok (.iload_n 2, 1) := by decide +kernel
theorem dpc_3 : decode jdk_42_method_157_code 3 = .ok (.getstatic 1053, 3) := by decide +kernel
theorem dpc_6 : decode jdk_42_method_157_code 6 = .ok (.invokestatic 1065, 3) := by decide +kernel
theorem dpc_9 : decode jdk_42_method_157_code 9 = .ok (.ireturn, 1) := by decide +kernel
theorem pd12 : parseMethodDescriptor "(III)I" = some ⟨[.int, .int, .int], some .int⟩ := by decide +kernel
theorem efpc (m : MethodId) (i3 : Int32) : entryFrame m #[(.int (2 : Int32)), (.int (2 : Int32)), (.int i3)] 3 = mkF m 0 #[.val (.int (2 : Int32)), .val (.int (2 : Int32)), .val (.int i3)] [] := by first | (simp [entryFrame, mkF, argsToLocals, Value.category]; done) | rfl
set_option maxRecDepth 65536 in
set_option maxHeartbeats 40000000 in
theorem rmpc (l : Launch) (Z : State) (a0 : Array Value) (hw : ∀ d ∈ tables_1, d.before a0 Z = true) (ws : List Jvm.Cond) (i3 : Int32) (h0 : Heap) (n0 : Nat) (Z0 : n0 ≤ h0.size) (ic : Int32) (SC : Sta Z Z.heap "java/lang/String" "COMPACT_STRINGS" "Z" (.int ic)) (hz : ¬ ic = 0) (O0 : Old Z n0 h0) (fm : Value) (SF : Sta Z Z.heap "jdk/internal/util/Preconditions" "SIOOBE_FORMATTER" "Ljava/util/function/BiFunction;" fm) (rf : fm.isRef = true) (hp1 : ¬ ((i3 ||| (2 : Int32)) ||| (2 : Int32)) < (0 : Int32)) (hp2 : ¬ (i3 - (2 : Int32)) < (2 : Int32)) :
    own_Met l (⟨"java/lang/String", "checkBoundsOffCount", "(III)I"⟩ : MethodName) jdk_42_method_157_code 3 (some .int) ({ frames := 1, cells := 0, slots := 0, locals := 15 } : Room) ws #[(.int (2 : Int32)), (.int (2 : Int32)), (.int i3)] Z h0 0 0 (own_QP (some (.int (2 : Int32))) h0 n0) := by
  refine own_met (plainFor_of_name pn2) ?_
  intro p e s m below meth c s₁ hx hby hml hown hnm hret hlk hZ e0 X0
  have hml : c.maxLocals = 3 := hml
  have N0 := Fr.nil n0
  have K0 := Keep.refl h0 []
  refine own_go (fun _ k => castTop (efpc m i3) k) ?_
  show own_Fin p.tables e below _ (s₁.setTop (mkF m 0 #[.val (.int (2 : Int32)), .val (.int (2 : Int32)), .val (.int i3)] []))
  refine own_go (fun _ k => XS.iloadN X0.here hx rfl (hb hby dpc_0) rfl k) ?_
  show own_Fin p.tables e below _ (s₁.setTop (mkF m 1 #[.val (.int (2 : Int32)), .val (.int (2 : Int32)), .val (.int i3)] [(.int (2 : Int32))]))
  refine own_go (fun _ k => XS.iloadN X0.here hx rfl (hb hby dpc_1) rfl k) ?_
  show own_Fin p.tables e below _ (s₁.setTop (mkF m 2 #[.val (.int (2 : Int32)), .val (.int (2 : Int32)), .val (.int i3)] [(.int (2 : Int32)), (.int (2 : Int32))]))
  refine own_go (fun _ k => XS.iloadN X0.here hx rfl (hb hby dpc_2) rfl k) ?_
  show own_Fin p.tables e below _ (s₁.setTop (mkF m 3 #[.val (.int (2 : Int32)), .val (.int (2 : Int32)), .val (.int i3)] [(.int i3), (.int (2 : Int32)), (.int (2 : Int32))]))
  obtain ⟨T1, X1, e1, st1⟩ := getS (host := "") X0 hx hZ hown (hw _ (List.mem_of_getElem? (i := 104) rfl)) Via.refl e0 (SF.ext O0.2) (g := (mkF m 3 #[.val (.int (2 : Int32)), .val (.int (2 : Int32)), .val (.int i3)] [(.int i3), (.int (2 : Int32)), (.int (2 : Int32))])) rfl (hb hby dpc_3)
  refine own_go st1 ?_
  show own_Fin p.tables e below _ (T1.setTop (mkF m 6 #[.val (.int (2 : Int32)), .val (.int (2 : Int32)), .val (.int i3)] [fm, (.int i3), (.int (2 : Int32)), (.int (2 : Int32))]))
  obtain ⟨_, T2, L2, X2, ⟨rfl, M2, e2⟩, st2⟩ := own_callS X1 hx hZ hown (hw _ (List.mem_of_getElem? (i := 116) rfl)) (hw _ (List.mem_of_getElem? (i := 117) rfl)) (hw _ (List.mem_of_getElem? (i := 105) rfl)) (hw _ (List.mem_of_getElem? (i := 118) rfl)) (by decide) (W := 0) (rmps l Z a0 hw [] i3 fm h0 n0 (Nat.le_trans Z0 K0.1) rf hp1 hp2) (by decide) (by decide) e1 (g := (mkF m 6 #[.val (.int (2 : Int32)), .val (.int (2 : Int32)), .val (.int i3)] [fm, (.int i3), (.int (2 : Int32)), (.int (2 : Int32))])) rfl (by rw [hml]; rfl) (argsL := [(.int (2 : Int32)), (.int (2 : Int32)), (.int i3), fm]) (rest := []) rfl (lenOf pd9 rfl) rfl (by show 2 * 0 + _ ≤ _; exact Nat.le_of_eq rfl) (hb hby dpc_6) (by decide) (by decide)
  have N2 := Fr.app N0 M2
  refine own_go st2 ?_
  show own_Fin p.tables e below _ (T2.setTop (mkF m 9 #[.val (.int (2 : Int32)), .val (.int (2 : Int32)), .val (.int i3)] [(.int (2 : Int32))]))
  refine own_retI X2 hx hlk hret (hb hby dpc_9) ?_ (by decide) (by decide)
  exact ⟨rfl, N2, e2⟩
theorem dlg_0 : decode jdk_43_method_12_code 0 = .ok (.aload_n 0, 1) := by decide +kernel
theorem dlg_1 : decode jdk_43_method_12_code 1 = .ok (.iload_n 1, 1) := by decide +kernel
theorem dlg_2 : decode jdk_43_method_12_code 2 = .ok (.aload_n 3, 1) := by decide +kernel
theorem dlg_3 : decode jdk_43_method_12_code 3 = .ok (.iload 4, 2) := by decide +kernel
theorem dlg_5 : decode jdk_43_method_12_code 5 = .ok (.iload_n 2, 1) := by decide +kernel
theorem dlg_6 : decode jdk_43_method_12_code 6 = .ok (.iload_n 1, 1) := by decide +kernel
theorem dlg_7 : decode jdk_43_method_12_code 7 = .ok (.isub, 1) := by decide +kernel
theorem dlg_8 : decode jdk_43_method_12_code 8 = .ok (.invokestatic 28, 3) := by decide +kernel
theorem dlg_11 : decode jdk_43_method_12_code 11 = .ok (.return_, 1) := by decide +kernel
theorem pn5 : plainName "java/lang/StringLatin1" = true := by first | (simp [plainName, overriddenIn]; done) | decide +kernel
theorem pd13 : parseMethodDescriptor "([BII[BI)V" = some ⟨[(.array .byte), .int, .int, (.array .byte), .int], none⟩ := by decide +kernel
theorem eflg (m : MethodId) (r0 : Addr) (r3 : Addr) : entryFrame m #[(.ref r0), (.int (0 : Int32)), (.int (2 : Int32)), (.ref r3), (.int (2 : Int32))] 5 = mkF m 0 #[.val (.ref r0), .val (.int (0 : Int32)), .val (.int (2 : Int32)), .val (.ref r3), .val (.int (2 : Int32))] [] := by first | (simp [entryFrame, mkF, argsToLocals, Value.category]; done) | rfl
set_option maxRecDepth 65536 in
set_option maxHeartbeats 40000000 in
theorem rmlg (l : Launch) (Z : State) (a0 : Array Value) (hw : ∀ d ∈ tables_1, d.before a0 Z = true) (ws : List Jvm.Cond) (r0 : Addr) (r3 : Addr) (h0 : Heap) (n0 : Nat) (Z0 : n0 ≤ h0.size) (k6 : ClassId) (b0 : Int32) (b1 : Int32) (A_s : Arv Z h0 r0 k6 .byte (2 : Int32) [(.int b0), (.int b1)] (.int (0 : Int32))) (k5 : ClassId) (w0 : Int32) (w1 : Int32) (z5 : Int32) (A_t : Arv Z h0 r3 k5 .byte z5 [(.int w0), (.int w1)] (.int (0 : Int32))) (g_t : n0 ≤ r3) (hq5 : ¬ z5 < (4 : Int32) ∧ z5 < 8) (hne : r0 ≠ r3) :
    own_Met l (⟨"java/lang/StringLatin1", "getBytes", "([BII[BI)V"⟩ : MethodName) jdk_43_method_12_code 5 none ({ frames := 1, cells := 0, slots := 0, locals := 27 } : Room) ws #[(.ref r0), (.int (0 : Int32)), (.int (2 : Int32)), (.ref r3), (.int (2 : Int32))] Z h0 0 0 (fun v h L => v = none ∧ Fr n0 L ∧ Keep h0 h [r3] ∧ Arv Z h r3 k5 .byte z5 [(.int w0), (.int w1), (.int b0), (.int b1)] (.int (0 : Int32))) := by
  refine own_met (plainFor_of_name pn5) ?_
  intro p e s m below meth c s₁ hx hby hml hown hnm hret hlk hZ e0 X0
  have hml : c.maxLocals = 5 := hml
  have N0 := Fr.nil n0
  have K0 := Keep.refl h0 [r3]
  refine own_go (fun _ k => castTop (eflg m r0 r3) k) ?_
  show own_Fin p.tables e below _ (s₁.setTop (mkF m 0 #[.val (.ref r0), .val (.int (0 : Int32)), .val (.int (2 : Int32)), .val (.ref r3), .val (.int (2 : Int32))] []))
  refine own_go (fun _ k => XS.aloadN X0.here hx rfl (hb hby dlg_0) rfl rfl k) ?_
  show own_Fin p.tables e below _ (s₁.setTop (mkF m 1 #[.val (.ref r0), .val (.int (0 : Int32)), .val (.int (2 : Int32)), .val (.ref r3), .val (.int (2 : Int32))] [(.ref r0)]))
  refine own_go (fun _ k => XS.iloadN X0.here hx rfl (hb hby dlg_1) rfl k) ?_
  show own_Fin p.tables e below _ (s₁.setTop (mkF m 2 #[.val (.ref r0), .val (.int (0 : Int32)), .val (.int (2 : Int32)), .val (.ref r3), .val (.int (2 : Int32))] [(.int (0 : Int32)), (.ref r0)]))
  refine own_go (fun _ k => XS.aloadN X0.here hx rfl (hb hby dlg_2) rfl rfl k) ?_
  show own_Fin p.tables e below _ (s₁.setTop (mkF m 3 #[.val (.ref r0), .val (.int (0 : Int32)), .val (.int (2 : Int32)), .val (.ref r3), .val (.int (2 : Int32))] [(.ref r3), (.int (0 : Int32)), (.ref r0)]))
  refine own_go (fun _ k => XS.iload X0.here hx rfl (hb hby dlg_3) rfl k) ?_
  show own_Fin p.tables e below _ (s₁.setTop (mkF m 5 #[.val (.ref r0), .val (.int (0 : Int32)), .val (.int (2 : Int32)), .val (.ref r3), .val (.int (2 : Int32))] [(.int (2 : Int32)), (.ref r3), (.int (0 : Int32)), (.ref r0)]))
  refine own_go (fun _ k => XS.iloadN X0.here hx rfl (hb hby dlg_5) rfl k) ?_
  show own_Fin p.tables e below _ (s₁.setTop (mkF m 6 #[.val (.ref r0), .val (.int (0 : Int32)), .val (.int (2 : Int32)), .val (.ref r3), .val (.int (2 : Int32))] [(.int (2 : Int32)), (.int (2 : Int32)), (.ref r3), (.int (0 : Int32)), (.ref r0)]))
  refine own_go (fun _ k => XS.iloadN X0.here hx rfl (hb hby dlg_6) rfl k) ?_
  show own_Fin p.tables e below _ (s₁.setTop (mkF m 7 #[.val (.ref r0), .val (.int (0 : Int32)), .val (.int (2 : Int32)), .val (.ref r3), .val (.int (2 : Int32))] [(.int (0 : Int32)), (.int (2 : Int32)), (.int (2 : Int32)), (.ref r3), (.int (0 : Int32)), (.ref r0)]))
  refine own_go (fun _ k => XS.isub X0.here hx rfl (hb hby dlg_7) rfl k) ?_
  show own_Fin p.tables e below _ (s₁.setTop (mkF m 8 #[.val (.ref r0), .val (.int (0 : Int32)), .val (.int (2 : Int32)), .val (.ref r3), .val (.int (2 : Int32))] [(.int ((2 : Int32) - (0 : Int32))), (.int (2 : Int32)), (.ref r3), (.int (0 : Int32)), (.ref r0)]))
  rw [show ((2 : Int32) - (0 : Int32)) = (2 : Int32) from by decide +kernel]
  show own_Fin p.tables e below _ (s₁.setTop (mkF m 8 #[.val (.ref r0), .val (.int (0 : Int32)), .val (.int (2 : Int32)), .val (.ref r3), .val (.int (2 : Int32))] [(.int (2 : Int32)), (.int (2 : Int32)), (.ref r3), (.int (0 : Int32)), (.ref r0)]))
  have P1 : Arv Z h0 r3 k5 .byte z5 [(.int w0), (.int w1), (.int (0 : Int32)), (.int (0 : Int32))] (.int (0 : Int32)) := A_t.pad (pad_rep [(.int w0), (.int w1)] (.int (0 : Int32)) 2)
  obtain ⟨T1, h1, L1, X1, e1, N1, KK1, Ga1, st1⟩ := cpA X0 hx hZ hown (hw _ (List.mem_of_getElem? (i := 128) rfl)) (hw _ (List.mem_of_getElem? (i := 70) rfl)) (hw _ (List.mem_of_getElem? (i := 68) rfl)) (hw _ (List.mem_of_getElem? (i := 69) rfl)) e0 A_s P1 (Or.inl ⟨rfl, rfl⟩) (sp := (0 : Int32)) (dp := (2 : Int32)) (nn := (2 : Int32)) (by decide) (by decide) (by decide) (by decide) (own_z4n hq5) (us := [(.int b0), (.int b1)]) rfl (Nat.le_of_ble_eq_true rfl) N0 g_t (g := (mkF m 8 #[.val (.ref r0), .val (.int (0 : Int32)), .val (.int (2 : Int32)), .val (.ref r3), .val (.int (2 : Int32))] [(.int (2 : Int32)), (.int (2 : Int32)), (.ref r3), (.int (0 : Int32)), (.ref r0)])) rfl (by rw [hml]; rfl) (rest := []) rfl (hb hby dlg_8) (by decide) (W := 0) (by show 2 * 0 + _ ≤ _; exact Nat.le_of_eq rfl) (by decide)
  have Gb1 : Arv Z h1 r3 k5 .byte z5 [(.int w0), (.int w1), (.int b0), (.int b1)] (.int (0 : Int32)) := Ga1
  have Vr0_1 := A_s.keep KK1 (ninS hne nin0)
  have K1 := K0.trans KK1 (allS (Or.inl (List.mem_of_getElem? (i := 0) rfl)) all0)
  refine own_go st1 ?_
  show own_Fin p.tables e below _ (T1.setTop (mkF m 11 #[.val (.ref r0), .val (.int (0 : Int32)), .val (.int (2 : Int32)), .val (.ref r3), .val (.int (2 : Int32))] []))
  refine own_retV X1 hx hlk hret (hb hby dlg_11) ?_ (by decide) (by decide)
  show _ ∧ _ ∧ Keep h0 T1.heap _ ∧ _
  rw [e1]
  exact ⟨rfl, N1, K1, Gb1⟩
theorem dsg_0 : decode jdk_42_method_62_code 0 = .ok (.iload_n 1, 1) := by decide +kernel
theorem dsg_1 : decode jdk_42_method_62_code 1 = .ok (.iload_n 2, 1) := by decide +kernel
theorem dsg_2 : decode jdk_42_method_62_code 2 = .ok (.aload_n 0, 1) := by decide +kernel
theorem dsg_3 : decode jdk_42_method_62_code 3 = .ok (.invokevirtual 505, 3) := by decide +kernel
theorem dsg_6 : decode jdk_42_method_62_code 6 = .ok (.invokestatic 521, 3) := by decide +kernel
theorem dsg_9 : decode jdk_42_method_62_code 9 = .ok (.aload_n 3, 1) := by decide +kernel
theorem dsg_10 : decode jdk_42_method_62_code 10 = .ok (.invokestatic 78, 3) := by decide +kernel
theorem dsg_13 : decode jdk_42_method_62_code 13 = .ok (.pop, 1) := by decide +kernel
theorem dsg_14 : decode jdk_42_method_62_code 14 = .ok (.iload 4, 2) := by decide +kernel
theorem dsg_16 : decode jdk_42_method_62_code 16 = .ok (.iload_n 2, 1) := by decide +kernel
theorem dsg_17 : decode jdk_42_method_62_code 17 = .ok (.iload_n 1, 1) := by decide +kernel
theorem dsg_18 : decode jdk_42_method_62_code 18 = .ok (.isub, 1) := by decide +kernel
theorem dsg_19 : decode jdk_42_method_62_code 19 = .ok (.aload_n 3, 1) := by decide +kernel
theorem dsg_20 : decode jdk_42_method_62_code 20 = .ok (.arraylength, 1) := by decide +kernel
theorem dsg_21 : decode jdk_42_method_62_code 21 = .ok (.invokestatic 34, 3) := by decide +kernel
theorem dsg_24 : decode jdk_42_method_62_code 24 = .ok (.pop, 1) := by decide +kernel
theorem dsg_25 : decode jdk_42_method_62_code 25 = .ok (.aload_n 0, 1) := by decide +kernel
theorem dsg_26 : decode jdk_42_method_62_code 26 = .ok (.invokevirtual 492, 3) := by decide +kernel
theorem dsg_29 : decode jdk_42_method_62_code 29 = .ok (.ifCond .eq 18, 3) := by decide +kernel
theorem dsg_32 : decode jdk_42_method_62_code 32 = .ok (.aload_n 0, 1) := by decide +kernel
theorem dsg_33 : decode jdk_42_method_62_code 33 = .ok (.getfield 9, 3) := by decide +kernel
theorem dsg_36 : decode jdk_42_method_62_code 36 = .ok (.iload_n 1, 1) := by decide +kernel
theorem dsg_37 : decode jdk_42_method_62_code 37 = .ok (.iload_n 2, 1) := by decide +kernel
theorem dsg_38 : decode jdk_42_method_62_code 38 = .ok (.aload_n 3, 1) := by decide +kernel
theorem dsg_39 : decode jdk_42_method_62_code 39 = .ok (.iload 4, 2) := by decide +kernel
theorem dsg_41 : decode jdk_42_method_62_code 41 = .ok (.invokestatic 530, 3) := by decide +kernel
theorem dsg_44 : decode jdk_42_method_62_code 44 = .ok (.goto 15, 3) := by decide +kernel
theorem dsg_59 : decode jdk_42_method_62_code 59 = .ok (.return_, 1) := by decide +kernel
theorem pd14 : parseMethodDescriptor "(II[BI)V" = some ⟨[.int, .int, (.array .byte), .int], none⟩ := by decide +kernel
theorem efsg (m : MethodId) (r0 : Addr) (r3 : Addr) : entryFrame m #[(.ref r0), (.int (0 : Int32)), (.int (2 : Int32)), (.ref r3), (.int (2 : Int32))] 5 = mkF m 0 #[.val (.ref r0), .val (.int (0 : Int32)), .val (.int (2 : Int32)), .val (.ref r3), .val (.int (2 : Int32))] [] := by first | (simp [entryFrame, mkF, argsToLocals, Value.category]; done) | rfl
set_option maxRecDepth 65536 in
set_option maxHeartbeats 40000000 in
theorem rmsg (l : Launch) (Z : State) (a0 : Array Value) (hw : ∀ d ∈ tables_1, d.before a0 Z = true) (ws : List Jvm.Cond) (r0 : Addr) (r3 : Addr) (h0 : Heap) (n0 : Nat) (Z0 : n0 ≤ h0.size) (r6 : Addr) (k6 : ClassId) (b0 : Int32) (b1 : Int32) (E_s : Exa Z h0 r0 "java/lang/String") (F_v : Fld Z h0 r0 "java/lang/String" "value" "[B" (.ref r6)) (F_c : Fld Z h0 r0 "java/lang/String" "coder" "B" (.int (0 : Int32))) (A_s : Arv Z h0 r6 k6 .byte (2 : Int32) [(.int b0), (.int b1)] (.int (0 : Int32))) (k5 : ClassId) (w0 : Int32) (w1 : Int32) (z5 : Int32) (A_t : Arv Z h0 r3 k5 .byte z5 [(.int w0), (.int w1)] (.int (0 : Int32))) (g_t : n0 ≤ r3) (hq5 : ¬ z5 < (4 : Int32) ∧ z5 < 8) (hne : r6 ≠ r3) (ic : Int32) (SC : Sta Z Z.heap "java/lang/String" "COMPACT_STRINGS" "Z" (.int ic)) (hz : ¬ ic = 0) (O0 : Old Z n0 h0) (fm : Value) (SF : Sta Z Z.heap "jdk/internal/util/Preconditions" "SIOOBE_FORMATTER" "Ljava/util/function/BiFunction;" fm) (rf : fm.isRef = true) :
    own_Met l (⟨"java/lang/String", "getBytes", "(II[BI)V"⟩ : MethodName) jdk_42_method_62_code 5 none ({ frames := 2, cells := 0, slots := 0, locals := 43 } : Room) ws #[(.ref r0), (.int (0 : Int32)), (.int (2 : Int32)), (.ref r3), (.int (2 : Int32))] Z h0 0 0 (fun v h L => v = none ∧ Fr n0 L ∧ Keep h0 h [r3] ∧ Arv Z h r3 k5 .byte z5 [(.int w0), (.int w1), (.int b0), (.int b1)] (.int (0 : Int32))) := by
  refine own_met (plainFor_of_name pn2) ?_
  intro p e s m below meth c s₁ hx hby hml hown hnm hret hlk hZ e0 X0
  have hml : c.maxLocals = 5 := hml
  have N0 := Fr.nil n0
  have K0 := Keep.refl h0 [r3]
  refine own_go (fun _ k => castTop (efsg m r0 r3) k) ?_
  show own_Fin p.tables e below _ (s₁.setTop (mkF m 0 #[.val (.ref r0), .val (.int (0 : Int32)), .val (.int (2 : Int32)), .val (.ref r3), .val (.int (2 : Int32))] []))
  refine own_go (fun _ k => XS.iloadN X0.here hx rfl (hb hby dsg_0) rfl k) ?_
  show own_Fin p.tables e below _ (s₁.setTop (mkF m 1 #[.val (.ref r0), .val (.int (0 : Int32)), .val (.int (2 : Int32)), .val (.ref r3), .val (.int (2 : Int32))] [(.int (0 : Int32))]))
  refine own_go (fun _ k => XS.iloadN X0.here hx rfl (hb hby dsg_1) rfl k) ?_
  show own_Fin p.tables e below _ (s₁.setTop (mkF m 2 #[.val (.ref r0), .val (.int (0 : Int32)), .val (.int (2 : Int32)), .val (.ref r3), .val (.int (2 : Int32))] [(.int (2 : Int32)), (.int (0 : Int32))]))
  refine own_go (fun _ k => XS.aloadN X0.here hx rfl (hb hby dsg_2) rfl rfl k) ?_
  show own_Fin p.tables e below _ (s₁.setTop (mkF m 3 #[.val (.ref r0), .val (.int (0 : Int32)), .val (.int (2 : Int32)), .val (.ref r3), .val (.int (2 : Int32))] [(.ref r0), (.int (2 : Int32)), (.int (0 : Int32))]))
  obtain ⟨_, T1, L1, X1, ⟨rfl, M1, e1⟩, st1⟩ := own_callV X0 hx hZ hown (hw _ (List.mem_of_getElem? (i := 100) rfl)) (hw _ (List.mem_of_getElem? (i := 82) rfl)) (hw _ (List.mem_of_getElem? (i := 84) rfl)) (hw _ (List.mem_of_getElem? (i := 83) rfl)) (hw _ (List.mem_of_getElem? (i := 3) rfl)) (hw _ (List.mem_of_getElem? (i := 85) rfl)) (by decide) (W := 2) (rmsn l Z a0 hw [] r0 h0 n0 (Nat.le_trans Z0 K0.1) r6 k6 b0 b1 E_s F_v F_c A_s ic SC hz O0) (by decide) (by decide) e0 E_s (g := (mkF m 3 #[.val (.ref r0), .val (.int (0 : Int32)), .val (.int (2 : Int32)), .val (.ref r3), .val (.int (2 : Int32))] [(.ref r0), (.int (2 : Int32)), (.int (0 : Int32))])) rfl (by rw [hml]; rfl) (argsL := []) (rest := [(.int (2 : Int32)), (.int (0 : Int32))]) rfl (lenOf pd8 rfl) rfl (by show 2 * 0 + _ ≤ _; exact Nat.le_of_eq rfl) (hb hby dsg_3) (by decide) (by decide)
  have N1 := Fr.app N0 M1
  refine own_go st1 ?_
  show own_Fin p.tables e below _ (T1.setTop (mkF m 6 #[.val (.ref r0), .val (.int (0 : Int32)), .val (.int (2 : Int32)), .val (.ref r3), .val (.int (2 : Int32))] [(.int (2 : Int32)), (.int (2 : Int32)), (.int (0 : Int32))]))
  obtain ⟨_, T2, L2, X2, ⟨rfl, M2, e2⟩, st2⟩ := own_callS X1 hx hZ hown (hw _ (List.mem_of_getElem? (i := 101) rfl)) (hw _ (List.mem_of_getElem? (i := 102) rfl)) (hw _ (List.mem_of_getElem? (i := 3) rfl)) (hw _ (List.mem_of_getElem? (i := 103) rfl)) (by decide) (W := 0) (rmpb l Z a0 hw []  h0 n0 (Nat.le_trans Z0 K0.1) ic SC hz O0 fm SF rf) (by decide) (by decide) e1 (g := (mkF m 6 #[.val (.ref r0), .val (.int (0 : Int32)), .val (.int (2 : Int32)), .val (.ref r3), .val (.int (2 : Int32))] [(.int (2 : Int32)), (.int (2 : Int32)), (.int (0 : Int32))])) rfl (by rw [hml]; rfl) (argsL := [(.int (0 : Int32)), (.int (2 : Int32)), (.int (2 : Int32))]) (rest := []) rfl (lenOf pd10 rfl) rfl (by show 2 * 0 + _ ≤ _; exact Nat.le_of_eq rfl) (hb hby dsg_6) (by decide) (by decide)
  have N2 := Fr.app N1 M2
  refine own_go st2 ?_
  show own_Fin p.tables e below _ (T2.setTop (mkF m 9 #[.val (.ref r0), .val (.int (0 : Int32)), .val (.int (2 : Int32)), .val (.ref r3), .val (.int (2 : Int32))] []))
  refine own_go (fun _ k => XS.aloadN X2.here hx rfl (hb hby dsg_9) rfl rfl k) ?_
  show own_Fin p.tables e below _ (T2.setTop (mkF m 10 #[.val (.ref r0), .val (.int (0 : Int32)), .val (.int (2 : Int32)), .val (.ref r3), .val (.int (2 : Int32))] [(.ref r3)]))
  obtain ⟨_, T3, L3, X3, ⟨rfl, M3, e3⟩, st3⟩ := own_callS X2 hx hZ hown (hw _ (List.mem_of_getElem? (i := 109) rfl)) (hw _ (List.mem_of_getElem? (i := 110) rfl)) (hw _ (List.mem_of_getElem? (i := 111) rfl)) (hw _ (List.mem_of_getElem? (i := 112) rfl)) (by decide) (W := 0) (rmpo l Z a0 hw [] r3 h0 n0 (Nat.le_trans Z0 K0.1) ) (by decide) (by decide) e2 (g := (mkF m 10 #[.val (.ref r0), .val (.int (0 : Int32)), .val (.int (2 : Int32)), .val (.ref r3), .val (.int (2 : Int32))] [(.ref r3)])) rfl (by rw [hml]; rfl) (argsL := [(.ref r3)]) (rest := []) rfl (lenOf pd11 rfl) rfl (by show 2 * 0 + _ ≤ _; exact Nat.le_of_eq rfl) (hb hby dsg_10) (by decide) (by decide)
  have N3 := Fr.app N2 M3
  refine own_go st3 ?_
  show own_Fin p.tables e below _ (T3.setTop (mkF m 13 #[.val (.ref r0), .val (.int (0 : Int32)), .val (.int (2 : Int32)), .val (.ref r3), .val (.int (2 : Int32))] [(.ref r3)]))
  refine own_go (fun _ k => XT.pop X3.here hx rfl (hb hby dsg_13) rfl rfl k) ?_
  show own_Fin p.tables e below _ (T3.setTop (mkF m 14 #[.val (.ref r0), .val (.int (0 : Int32)), .val (.int (2 : Int32)), .val (.ref r3), .val (.int (2 : Int32))] []))
  refine own_go (fun _ k => XS.iload X3.here hx rfl (hb hby dsg_14) rfl k) ?_
  show own_Fin p.tables e below _ (T3.setTop (mkF m 16 #[.val (.ref r0), .val (.int (0 : Int32)), .val (.int (2 : Int32)), .val (.ref r3), .val (.int (2 : Int32))] [(.int (2 : Int32))]))
  refine own_go (fun _ k => XS.iloadN X3.here hx rfl (hb hby dsg_16) rfl k) ?_
  show own_Fin p.tables e below _ (T3.setTop (mkF m 17 #[.val (.ref r0), .val (.int (0 : Int32)), .val (.int (2 : Int32)), .val (.ref r3), .val (.int (2 : Int32))] [(.int (2 : Int32)), (.int (2 : Int32))]))
  refine own_go (fun _ k => XS.iloadN X3.here hx rfl (hb hby dsg_17) rfl k) ?_
  show own_Fin p.tables e below _ (T3.setTop (mkF m 18 #[.val (.ref r0), .val (.int (0 : Int32)), .val (.int (2 : Int32)), .val (.ref r3), .val (.int (2 : Int32))] [(.int (0 : Int32)), (.int (2 : Int32)), (.int (2 : Int32))]))
  refine own_go (fun _ k => XS.isub X3.here hx rfl (hb hby dsg_18) rfl k) ?_
  show own_Fin p.tables e below _ (T3.setTop (mkF m 19 #[.val (.ref r0), .val (.int (0 : Int32)), .val (.int (2 : Int32)), .val (.ref r3), .val (.int (2 : Int32))] [(.int ((2 : Int32) - (0 : Int32))), (.int (2 : Int32))]))
  refine own_go (fun _ k => XS.aloadN X3.here hx rfl (hb hby dsg_19) rfl rfl k) ?_
  show own_Fin p.tables e below _ (T3.setTop (mkF m 20 #[.val (.ref r0), .val (.int (0 : Int32)), .val (.int (2 : Int32)), .val (.ref r3), .val (.int (2 : Int32))] [(.ref r3), (.int ((2 : Int32) - (0 : Int32))), (.int (2 : Int32))]))
  refine own_go (fun _ k => own_alen X3 hx hZ e3 A_t (g := (mkF m 20 #[.val (.ref r0), .val (.int (0 : Int32)), .val (.int (2 : Int32)), .val (.ref r3), .val (.int (2 : Int32))] [(.ref r3), (.int ((2 : Int32) - (0 : Int32))), (.int (2 : Int32))])) rfl (rest := [(.int ((2 : Int32) - (0 : Int32))), (.int (2 : Int32))]) rfl (hb hby dsg_20) k) ?_
  show own_Fin p.tables e below _ (T3.setTop (mkF m 21 #[.val (.ref r0), .val (.int (0 : Int32)), .val (.int (2 : Int32)), .val (.ref r3), .val (.int (2 : Int32))] [(.int z5), (.int ((2 : Int32) - (0 : Int32))), (.int (2 : Int32))]))
  rw [show ((2 : Int32) - (0 : Int32)) = (2 : Int32) from by decide +kernel]
  show own_Fin p.tables e below _ (T3.setTop (mkF m 21 #[.val (.ref r0), .val (.int (0 : Int32)), .val (.int (2 : Int32)), .val (.ref r3), .val (.int (2 : Int32))] [(.int z5), (.int (2 : Int32)), (.int (2 : Int32))]))
  obtain ⟨_, T4, L4, X4, ⟨rfl, M4, e4⟩, st4⟩ := own_callS X3 hx hZ hown (hw _ (List.mem_of_getElem? (i := 113) rfl)) (hw _ (List.mem_of_getElem? (i := 114) rfl)) (hw _ (List.mem_of_getElem? (i := 3) rfl)) (hw _ (List.mem_of_getElem? (i := 115) rfl)) (by decide) (W := 0) (rmpc l Z a0 hw [] z5 h0 n0 (Nat.le_trans Z0 K0.1) ic SC hz O0 fm SF rf (own_z4a hq5) (own_z4b hq5)) (by decide) (by decide) e3 (g := (mkF m 21 #[.val (.ref r0), .val (.int (0 : Int32)), .val (.int (2 : Int32)), .val (.ref r3), .val (.int (2 : Int32))] [(.int z5), (.int (2 : Int32)), (.int (2 : Int32))])) rfl (by rw [hml]; rfl) (argsL := [(.int (2 : Int32)), (.int (2 : Int32)), (.int z5)]) (rest := []) rfl (lenOf pd12 rfl) rfl (by show 2 * 0 + _ ≤ _; exact Nat.le_of_eq rfl) (hb hby dsg_21) (by decide) (by decide)
  have N4 := Fr.app N3 M4
  refine own_go st4 ?_
  show own_Fin p.tables e below _ (T4.setTop (mkF m 24 #[.val (.ref r0), .val (.int (0 : Int32)), .val (.int (2 : Int32)), .val (.ref r3), .val (.int (2 : Int32))] [(.int (2 : Int32))]))
  refine own_go (fun _ k => XT.pop X4.here hx rfl (hb hby dsg_24) rfl rfl k) ?_
  show own_Fin p.tables e below _ (T4.setTop (mkF m 25 #[.val (.ref r0), .val (.int (0 : Int32)), .val (.int (2 : Int32)), .val (.ref r3), .val (.int (2 : Int32))] []))
  refine own_go (fun _ k => XS.aloadN X4.here hx rfl (hb hby dsg_25) rfl rfl k) ?_
  show own_Fin p.tables e below _ (T4.setTop (mkF m 26 #[.val (.ref r0), .val (.int (0 : Int32)), .val (.int (2 : Int32)), .val (.ref r3), .val (.int (2 : Int32))] [(.ref r0)]))
  obtain ⟨_, T5, L5, X5, ⟨rfl, M5, e5⟩, st5⟩ := own_callV X4 hx hZ hown (hw _ (List.mem_of_getElem? (i := 119) rfl)) (hw _ (List.mem_of_getElem? (i := 120) rfl)) (hw _ (List.mem_of_getElem? (i := 122) rfl)) (hw _ (List.mem_of_getElem? (i := 121) rfl)) (hw _ (List.mem_of_getElem? (i := 3) rfl)) (hw _ (List.mem_of_getElem? (i := 123) rfl)) (by decide) (W := 0) (rmsl l Z a0 hw [] r0 h0 n0 (Nat.le_trans Z0 K0.1) r6 k6 b0 b1 E_s F_v F_c A_s ic SC hz O0) (by decide) (by decide) e4 E_s (g := (mkF m 26 #[.val (.ref r0), .val (.int (0 : Int32)), .val (.int (2 : Int32)), .val (.ref r3), .val (.int (2 : Int32))] [(.ref r0)])) rfl (by rw [hml]; rfl) (argsL := []) (rest := []) rfl (lenOf pd7 rfl) rfl (by show 2 * 0 + _ ≤ _; exact Nat.le_of_eq rfl) (hb hby dsg_26) (by decide) (by decide)
  have N5 := Fr.app N4 M5
  refine own_go st5 ?_
  show own_Fin p.tables e below _ (T5.setTop (mkF m 29 #[.val (.ref r0), .val (.int (0 : Int32)), .val (.int (2 : Int32)), .val (.ref r3), .val (.int (2 : Int32))] [(.int (1 : Int32))]))
  refine own_go (fun _ k => XS.ifNo X5.here hx rfl (hb hby dsg_29) rfl (XT.i0_eq_f (by decide)) k) ?_
  show own_Fin p.tables e below _ (T5.setTop (mkF m 32 #[.val (.ref r0), .val (.int (0 : Int32)), .val (.int (2 : Int32)), .val (.ref r3), .val (.int (2 : Int32))] []))
  refine own_go (fun _ k => XS.aloadN X5.here hx rfl (hb hby dsg_32) rfl rfl k) ?_
  show own_Fin p.tables e below _ (T5.setTop (mkF m 33 #[.val (.ref r0), .val (.int (0 : Int32)), .val (.int (2 : Int32)), .val (.ref r3), .val (.int (2 : Int32))] [(.ref r0)]))
  obtain ⟨T6, X6, e6, st6⟩ := getF X5 hx hZ hown (host := "") (Or.inl (hw _ (List.mem_of_getElem? (i := 28) rfl))) Via.refl e5 F_v (g := (mkF m 33 #[.val (.ref r0), .val (.int (0 : Int32)), .val (.int (2 : Int32)), .val (.ref r3), .val (.int (2 : Int32))] [(.ref r0)])) rfl rfl (hb hby dsg_33)
  refine own_go st6 ?_
  show own_Fin p.tables e below _ (T6.setTop (mkF m 36 #[.val (.ref r0), .val (.int (0 : Int32)), .val (.int (2 : Int32)), .val (.ref r3), .val (.int (2 : Int32))] [(.ref r6)]))
  refine own_go (fun _ k => XS.iloadN X6.here hx rfl (hb hby dsg_36) rfl k) ?_
  show own_Fin p.tables e below _ (T6.setTop (mkF m 37 #[.val (.ref r0), .val (.int (0 : Int32)), .val (.int (2 : Int32)), .val (.ref r3), .val (.int (2 : Int32))] [(.int (0 : Int32)), (.ref r6)]))
  refine own_go (fun _ k => XS.iloadN X6.here hx rfl (hb hby dsg_37) rfl k) ?_
  show own_Fin p.tables e below _ (T6.setTop (mkF m 38 #[.val (.ref r0), .val (.int (0 : Int32)), .val (.int (2 : Int32)), .val (.ref r3), .val (.int (2 : Int32))] [(.int (2 : Int32)), (.int (0 : Int32)), (.ref r6)]))
  refine own_go (fun _ k => XS.aloadN X6.here hx rfl (hb hby dsg_38) rfl rfl k) ?_
  show own_Fin p.tables e below _ (T6.setTop (mkF m 39 #[.val (.ref r0), .val (.int (0 : Int32)), .val (.int (2 : Int32)), .val (.ref r3), .val (.int (2 : Int32))] [(.ref r3), (.int (2 : Int32)), (.int (0 : Int32)), (.ref r6)]))
  refine own_go (fun _ k => XS.iload X6.here hx rfl (hb hby dsg_39) rfl k) ?_
  show own_Fin p.tables e below _ (T6.setTop (mkF m 41 #[.val (.ref r0), .val (.int (0 : Int32)), .val (.int (2 : Int32)), .val (.ref r3), .val (.int (2 : Int32))] [(.int (2 : Int32)), (.ref r3), (.int (2 : Int32)), (.int (0 : Int32)), (.ref r6)]))
  obtain ⟨_, T7, L7, X7, ⟨rfl, M7, KK7, Ga7⟩, st7⟩ := own_callS X6 hx hZ hown (hw _ (List.mem_of_getElem? (i := 124) rfl)) (hw _ (List.mem_of_getElem? (i := 125) rfl)) (hw _ (List.mem_of_getElem? (i := 126) rfl)) (hw _ (List.mem_of_getElem? (i := 127) rfl)) (by decide) (W := 0) (rmlg l Z a0 hw [] r6 r3 h0 n0 (Nat.le_trans Z0 K0.1) k6 b0 b1 A_s k5 w0 w1 z5 A_t g_t hq5 hne) (by decide) (by decide) e6 (g := (mkF m 41 #[.val (.ref r0), .val (.int (0 : Int32)), .val (.int (2 : Int32)), .val (.ref r3), .val (.int (2 : Int32))] [(.int (2 : Int32)), (.ref r3), (.int (2 : Int32)), (.int (0 : Int32)), (.ref r6)])) rfl (by rw [hml]; rfl) (argsL := [(.ref r6), (.int (0 : Int32)), (.int (2 : Int32)), (.ref r3), (.int (2 : Int32))]) (rest := []) rfl (lenOf pd13 rfl) rfl (by show 2 * 0 + _ ≤ _; exact Nat.le_of_eq rfl) (hb hby dsg_41) (by decide) (by decide)
  have N7 := Fr.app N5 M7
  have Er0_7 := E_s.keep KK7
  have Fr0_value_7 := F_v.keep KK7 (ninS (Exa.neArv E_s A_t (hw _ (List.mem_of_getElem? (i := 2) rfl))) nin0)
  have Fr0_coder_7 := F_c.keep KK7 (ninS (Exa.neArv E_s A_t (hw _ (List.mem_of_getElem? (i := 2) rfl))) nin0)
  have Vr6_7 := A_s.keep KK7 (ninS hne nin0)
  have O_7 := O0.keep KK7 (allS g_t all0)
  have K7 := K0.trans KK7 (allS (Or.inl (List.mem_of_getElem? (i := 0) rfl)) all0)
  refine own_go st7 ?_
  show own_Fin p.tables e below _ (T7.setTop (mkF m 44 #[.val (.ref r0), .val (.int (0 : Int32)), .val (.int (2 : Int32)), .val (.ref r3), .val (.int (2 : Int32))] []))
  refine own_go (fun _ k => XS.goto X7.here hx rfl (pc0 := 44) (pc' := 59) rfl (hb hby dsg_44) (by decide) (by decide) k) ?_
  show own_Fin p.tables e below _ (T7.setTop (mkF m 59 #[.val (.ref r0), .val (.int (0 : Int32)), .val (.int (2 : Int32)), .val (.ref r3), .val (.int (2 : Int32))] []))
  refine own_retV X7 hx hlk hret (hb hby dsg_59) ?_ (by decide) (by decide)
  show _ ∧ _ ∧ Keep h0 T7.heap _ ∧ _
  exact ⟨rfl, N7, K7, Ga7⟩
theorem dca_0 : decode prog_16_method_19_code 0 = .ok (.aload_n 1, 1) := by decide +kernel
theorem dca_1 : decode prog_16_method_19_code 1 = .ok (.iload_n 2, 1) := by decide +kernel
theorem dca_2 : decode prog_16_method_19_code 2 = .ok (.iload_n 3, 1) := by decide +kernel
theorem dca_3 : decode prog_16_method_19_code 3 = .ok (.aload_n 0, 1) := by decide +kernel
theorem dca_4 : decode prog_16_method_19_code 4 = .ok (.getfield 7, 3) := by decide +kernel
theorem dca_7 : decode prog_16_method_19_code 7 = .ok (.aload_n 0, 1) := by decide +kernel
theorem dca_8 : decode prog_16_method_19_code 8 = .ok (.getfield 98, 3) := by decide +kernel
theorem dca_11 : decode prog_16_method_19_code 11 = .ok (.invokevirtual 166, 3) := by decide +kernel
theorem dca_14 : decode prog_16_method_19_code 14 = .ok (.aload_n 0, 1) := by decide +kernel
theorem dca_15 : decode prog_16_method_19_code 15 = .ok (.dup, 1) := by decide +kernel
theorem dca_16 : decode prog_16_method_19_code 16 = .ok (.getfield 98, 3) := by decide +kernel
theorem dca_19 : decode prog_16_method_19_code 19 = .ok (.iload_n 3, 1) := by decide +kernel
theorem dca_20 : decode prog_16_method_19_code 20 = .ok (.iload_n 2, 1) := by decide +kernel
theorem dca_21 : decode prog_16_method_19_code 21 = .ok (.isub, 1) := by decide +kernel
theorem dca_22 : decode prog_16_method_19_code 22 = .ok (.iadd, 1) := by decide +kernel
theorem dca_23 : decode prog_16_method_19_code 23 = .ok (.putfield 98, 3) := by decide +kernel
theorem dca_26 : decode prog_16_method_19_code 26 = .ok (.return_, 1) := by decide +kernel
theorem pd15 : parseMethodDescriptor "(Ljava/lang/String;II)V" = some ⟨[(.object "java/lang/String"), .int, .int], none⟩ := by decide +kernel
theorem efca (m : MethodId) (r0 : Addr) (r1 : Addr) : entryFrame m #[(.ref r0), (.ref r1), (.int (0 : Int32)), (.int (2 : Int32))] 4 = mkF m 0 #[.val (.ref r0), .val (.ref r1), .val (.int (0 : Int32)), .val (.int (2 : Int32))] [] := by first | (simp [entryFrame, mkF, argsToLocals, Value.category]; done) | rfl
set_option maxRecDepth 65536 in
set_option maxHeartbeats 40000000 in
theorem rmca (l : Launch) (Z : State) (a0 : Array Value) (hw : ∀ d ∈ tables_1, d.before a0 Z = true) (ws : List Jvm.Cond) (r0 : Addr) (r1 : Addr) (h0 : Heap) (n0 : Nat) (Z0 : n0 ≤ h0.size) (r5 : Addr) (k5 : ClassId) (w0 : Int32) (w1 : Int32) (z5 : Int32) (E_a : Exa Z h0 r0 "com/example/envelope/envelope/JsonOutput") (F_b : Fld Z h0 r0 "com/example/envelope/envelope/JsonOutput" "bytes" "[B" (.ref r5)) (F_l : Fld Z h0 r0 "com/example/envelope/envelope/JsonOutput" "length" "I" (.int (2 : Int32))) (A_t : Arv Z h0 r5 k5 .byte z5 [(.int w0), (.int w1)] (.int (0 : Int32))) (g_a : n0 ≤ r0) (g_t : n0 ≤ r5) (hq5 : ¬ z5 < (4 : Int32) ∧ z5 < 8) (r6 : Addr) (k6 : ClassId) (b0 : Int32) (b1 : Int32) (E_s : Exa Z h0 r1 "java/lang/String") (F_v : Fld Z h0 r1 "java/lang/String" "value" "[B" (.ref r6)) (F_c : Fld Z h0 r1 "java/lang/String" "coder" "B" (.int (0 : Int32))) (A_s : Arv Z h0 r6 k6 .byte (2 : Int32) [(.int b0), (.int b1)] (.int (0 : Int32))) (hne : r6 ≠ r5) (ic : Int32) (SC : Sta Z Z.heap "java/lang/String" "COMPACT_STRINGS" "Z" (.int ic)) (hz : ¬ ic = 0) (O0 : Old Z n0 h0) (fm : Value) (SF : Sta Z Z.heap "jdk/internal/util/Preconditions" "SIOOBE_FORMATTER" "Ljava/util/function/BiFunction;" fm) (rf : fm.isRef = true) :
    own_Met l (⟨"com/example/envelope/envelope/JsonOutput", "copyAscii", "(Ljava/lang/String;II)V"⟩ : MethodName) prog_16_method_19_code 4 none ({ frames := 3, cells := 0, slots := 0, locals := 59 } : Room) ws #[(.ref r0), (.ref r1), (.int (0 : Int32)), (.int (2 : Int32))] Z h0 0 0 (fun v h L => v = none ∧ Fr n0 L ∧ Keep h0 h [r0, r5] ∧ Fld Z h r0 "com/example/envelope/envelope/JsonOutput" "bytes" "[B" (.ref r5) ∧ Fld Z h r0 "com/example/envelope/envelope/JsonOutput" "length" "I" (.int (4 : Int32)) ∧ Arv Z h r5 k5 .byte z5 [(.int w0), (.int w1), (.int b0), (.int b1)] (.int (0 : Int32))) := by
  refine own_met (plainFor_of_name pn1) ?_
  intro p e s m below meth c s₁ hx hby hml hown hnm hret hlk hZ e0 X0
  have hml : c.maxLocals = 4 := hml
  have N0 := Fr.nil n0
  have K0 := Keep.refl h0 [r0, r5]
  refine own_go (fun _ k => castTop (efca m r0 r1) k) ?_
  show own_Fin p.tables e below _ (s₁.setTop (mkF m 0 #[.val (.ref r0), .val (.ref r1), .val (.int (0 : Int32)), .val (.int (2 : Int32))] []))
  refine own_go (fun _ k => XS.aloadN X0.here hx rfl (hb hby dca_0) rfl rfl k) ?_
  show own_Fin p.tables e below _ (s₁.setTop (mkF m 1 #[.val (.ref r0), .val (.ref r1), .val (.int (0 : Int32)), .val (.int (2 : Int32))] [(.ref r1)]))
  refine own_go (fun _ k => XS.iloadN X0.here hx rfl (hb hby dca_1) rfl k) ?_
  show own_Fin p.tables e below _ (s₁.setTop (mkF m 2 #[.val (.ref r0), .val (.ref r1), .val (.int (0 : Int32)), .val (.int (2 : Int32))] [(.int (0 : Int32)), (.ref r1)]))
  refine own_go (fun _ k => XS.iloadN X0.here hx rfl (hb hby dca_2) rfl k) ?_
  show own_Fin p.tables e below _ (s₁.setTop (mkF m 3 #[.val (.ref r0), .val (.ref r1), .val (.int (0 : Int32)), .val (.int (2 : Int32))] [(.int (2 : Int32)), (.int (0 : Int32)), (.ref r1)]))
  refine own_go (fun _ k => XS.aloadN X0.here hx rfl (hb hby dca_3) rfl rfl k) ?_
  show own_Fin p.tables e below _ (s₁.setTop (mkF m 4 #[.val (.ref r0), .val (.ref r1), .val (.int (0 : Int32)), .val (.int (2 : Int32))] [(.ref r0), (.int (2 : Int32)), (.int (0 : Int32)), (.ref r1)]))
  obtain ⟨T1, X1, e1, st1⟩ := getF X0 hx hZ hown (host := "") (Or.inl (hw _ (List.mem_of_getElem? (i := 37) rfl))) Via.refl e0 F_b (g := (mkF m 4 #[.val (.ref r0), .val (.ref r1), .val (.int (0 : Int32)), .val (.int (2 : Int32))] [(.ref r0), (.int (2 : Int32)), (.int (0 : Int32)), (.ref r1)])) rfl rfl (hb hby dca_4)
  refine own_go st1 ?_
  show own_Fin p.tables e below _ (T1.setTop (mkF m 7 #[.val (.ref r0), .val (.ref r1), .val (.int (0 : Int32)), .val (.int (2 : Int32))] [(.ref r5), (.int (2 : Int32)), (.int (0 : Int32)), (.ref r1)]))
  refine own_go (fun _ k => XS.aloadN X1.here hx rfl (hb hby dca_7) rfl rfl k) ?_
  show own_Fin p.tables e below _ (T1.setTop (mkF m 8 #[.val (.ref r0), .val (.ref r1), .val (.int (0 : Int32)), .val (.int (2 : Int32))] [(.ref r0), (.ref r5), (.int (2 : Int32)), (.int (0 : Int32)), (.ref r1)]))
  obtain ⟨T2, X2, e2, st2⟩ := getF X1 hx hZ hown (host := "") (Or.inl (hw _ (List.mem_of_getElem? (i := 48) rfl))) Via.refl e1 F_l (g := (mkF m 8 #[.val (.ref r0), .val (.ref r1), .val (.int (0 : Int32)), .val (.int (2 : Int32))] [(.ref r0), (.ref r5), (.int (2 : Int32)), (.int (0 : Int32)), (.ref r1)])) rfl rfl (hb hby dca_8)
  refine own_go st2 ?_
  show own_Fin p.tables e below _ (T2.setTop (mkF m 11 #[.val (.ref r0), .val (.ref r1), .val (.int (0 : Int32)), .val (.int (2 : Int32))] [(.int (2 : Int32)), (.ref r5), (.int (2 : Int32)), (.int (0 : Int32)), (.ref r1)]))
  obtain ⟨_, T3, L3, X3, ⟨rfl, M3, KK3, Ga3⟩, st3⟩ := own_callV X2 hx hZ hown (hw _ (List.mem_of_getElem? (i := 95) rfl)) (hw _ (List.mem_of_getElem? (i := 96) rfl)) (hw _ (List.mem_of_getElem? (i := 98) rfl)) (hw _ (List.mem_of_getElem? (i := 97) rfl)) (hw _ (List.mem_of_getElem? (i := 3) rfl)) (hw _ (List.mem_of_getElem? (i := 99) rfl)) (by decide) (W := 0) (rmsg l Z a0 hw [] r1 r5 h0 n0 (Nat.le_trans Z0 K0.1) r6 k6 b0 b1 E_s F_v F_c A_s k5 w0 w1 z5 A_t g_t hq5 hne ic SC hz O0 fm SF rf) (by decide) (by decide) e2 E_s (g := (mkF m 11 #[.val (.ref r0), .val (.ref r1), .val (.int (0 : Int32)), .val (.int (2 : Int32))] [(.int (2 : Int32)), (.ref r5), (.int (2 : Int32)), (.int (0 : Int32)), (.ref r1)])) rfl (by rw [hml]; rfl) (argsL := [(.int (0 : Int32)), (.int (2 : Int32)), (.ref r5), (.int (2 : Int32))]) (rest := []) rfl (lenOf pd14 rfl) rfl (by show 2 * 0 + _ ≤ _; exact Nat.le_of_eq rfl) (hb hby dca_11) (by decide) (by decide)
  have N3 := Fr.app N0 M3
  have Er0_3 := E_a.keep KK3
  have Fr0_bytes_3 := F_b.keep KK3 (ninS (Exa.neArv E_a A_t (hw _ (List.mem_of_getElem? (i := 31) rfl))) nin0)
  have Fr0_length_3 := F_l.keep KK3 (ninS (Exa.neArv E_a A_t (hw _ (List.mem_of_getElem? (i := 31) rfl))) nin0)
  have Er1_3 := E_s.keep KK3
  have Fr1_value_3 := F_v.keep KK3 (ninS (Exa.neArv E_s A_t (hw _ (List.mem_of_getElem? (i := 2) rfl))) nin0)
  have Fr1_coder_3 := F_c.keep KK3 (ninS (Exa.neArv E_s A_t (hw _ (List.mem_of_getElem? (i := 2) rfl))) nin0)
  have Vr6_3 := A_s.keep KK3 (ninS hne nin0)
  have O_3 := O0.keep KK3 (allS g_t all0)
  have K3 := K0.trans KK3 (allS (Or.inl (List.mem_of_getElem? (i := 1) rfl)) all0)
  refine own_go st3 ?_
  show own_Fin p.tables e below _ (T3.setTop (mkF m 14 #[.val (.ref r0), .val (.ref r1), .val (.int (0 : Int32)), .val (.int (2 : Int32))] []))
  refine own_go (fun _ k => XS.aloadN X3.here hx rfl (hb hby dca_14) rfl rfl k) ?_
  show own_Fin p.tables e below _ (T3.setTop (mkF m 15 #[.val (.ref r0), .val (.ref r1), .val (.int (0 : Int32)), .val (.int (2 : Int32))] [(.ref r0)]))
  refine own_go (fun _ k => XS.dup X3.here hx rfl (hb hby dca_15) rfl rfl k) ?_
  show own_Fin p.tables e below _ (T3.setTop (mkF m 16 #[.val (.ref r0), .val (.ref r1), .val (.int (0 : Int32)), .val (.int (2 : Int32))] [(.ref r0), (.ref r0)]))
  obtain ⟨T4, X4, e4, st4⟩ := getF X3 hx hZ hown (host := "") (Or.inl (hw _ (List.mem_of_getElem? (i := 48) rfl))) Via.refl rfl Fr0_length_3 (g := (mkF m 16 #[.val (.ref r0), .val (.ref r1), .val (.int (0 : Int32)), .val (.int (2 : Int32))] [(.ref r0), (.ref r0)])) rfl rfl (hb hby dca_16)
  refine own_go st4 ?_
  show own_Fin p.tables e below _ (T4.setTop (mkF m 19 #[.val (.ref r0), .val (.ref r1), .val (.int (0 : Int32)), .val (.int (2 : Int32))] [(.int (2 : Int32)), (.ref r0)]))
  refine own_go (fun _ k => XS.iloadN X4.here hx rfl (hb hby dca_19) rfl k) ?_
  show own_Fin p.tables e below _ (T4.setTop (mkF m 20 #[.val (.ref r0), .val (.ref r1), .val (.int (0 : Int32)), .val (.int (2 : Int32))] [(.int (2 : Int32)), (.int (2 : Int32)), (.ref r0)]))
  refine own_go (fun _ k => XS.iloadN X4.here hx rfl (hb hby dca_20) rfl k) ?_
  show own_Fin p.tables e below _ (T4.setTop (mkF m 21 #[.val (.ref r0), .val (.ref r1), .val (.int (0 : Int32)), .val (.int (2 : Int32))] [(.int (0 : Int32)), (.int (2 : Int32)), (.int (2 : Int32)), (.ref r0)]))
  refine own_go (fun _ k => XS.isub X4.here hx rfl (hb hby dca_21) rfl k) ?_
  show own_Fin p.tables e below _ (T4.setTop (mkF m 22 #[.val (.ref r0), .val (.ref r1), .val (.int (0 : Int32)), .val (.int (2 : Int32))] [(.int ((2 : Int32) - (0 : Int32))), (.int (2 : Int32)), (.ref r0)]))
  refine own_go (fun _ k => XS.iadd X4.here hx rfl (hb hby dca_22) rfl k) ?_
  show own_Fin p.tables e below _ (T4.setTop (mkF m 23 #[.val (.ref r0), .val (.ref r1), .val (.int (0 : Int32)), .val (.int (2 : Int32))] [(.int ((2 : Int32) + ((2 : Int32) - (0 : Int32)))), (.ref r0)]))
  rw [show ((2 : Int32) + ((2 : Int32) - (0 : Int32))) = (4 : Int32) from by decide +kernel]
  show own_Fin p.tables e below _ (T4.setTop (mkF m 23 #[.val (.ref r0), .val (.ref r1), .val (.int (0 : Int32)), .val (.int (2 : Int32))] [(.int (4 : Int32)), (.ref r0)]))
  obtain ⟨T5, h5, X5, e5, W5, st5⟩ := putF X4 hx hZ hown (host := "") (Or.inl (hw _ (List.mem_of_getElem? (i := 48) rfl))) Via.refl e4 Fr0_length_3 Er0_3 (Or.inl (hw _ (List.mem_of_getElem? (i := 49) rfl))) (hw _ (List.mem_of_getElem? (i := 31) rfl)) (ty := .int) (by decide) rfl rfl (g := (mkF m 23 #[.val (.ref r0), .val (.ref r1), .val (.int (0 : Int32)), .val (.int (2 : Int32))] [(.int (4 : Int32)), (.ref r0)])) rfl rfl (hb hby dca_23)
  have K5 := K3.wr W5 (Or.inl (List.mem_of_getElem? (i := 0) rfl))
  have N5 := Fr.snoc X5 N3 g_a
  have Er0_5 := Er0_3.wr W5
  have Fr0_bytes_5 := Fr0_bytes_3.other W5 (Or.inr (slot_ne (Or.inl (hw _ (List.mem_of_getElem? (i := 38) rfl))) (Or.inl (hw _ (List.mem_of_getElem? (i := 49) rfl))) (by decide) (t := (.array .byte)) (t' := .int) (by decide) (by decide)))
  have Fr0_length_5 := Fr0_length_3.same W5
  have Er1_5 := Er1_3.wr W5
  have Fr1_value_5 := Fr1_value_3.other W5 (Or.inl (Ne.symm (Exa.ne E_a E_s (by decide))))
  have Fr1_coder_5 := Fr1_coder_3.other W5 (Or.inl (Ne.symm (Exa.ne E_a E_s (by decide))))
  have Vr6_5 := Vr6_3.other W5 (Ne.symm (Exa.neArv E_a A_s (hw _ (List.mem_of_getElem? (i := 31) rfl))))
  have O_5 := O_3.wr W5 g_a
  have Vr5_5 := Ga3.other W5 (Ne.symm (Exa.neArv E_a A_t (hw _ (List.mem_of_getElem? (i := 31) rfl))))
  refine own_go st5 ?_
  show own_Fin p.tables e below _ (T5.setTop (mkF m 26 #[.val (.ref r0), .val (.ref r1), .val (.int (0 : Int32)), .val (.int (2 : Int32))] []))
  refine own_retV X5 hx hlk hret (hb hby dca_26) ?_ (by decide) (by decide)
  show _ ∧ _ ∧ Keep h0 T5.heap _ ∧ _
  rw [e5]
  exact ⟨rfl, N5, K5, Fr0_bytes_5, Fr0_length_5, Vr5_5⟩
theorem dxn_0 : decode prog_16_method_10_code 0 = .ok (.aload_n 0, 1) := by decide +kernel
theorem dxn_1 : decode prog_16_method_10_code 1 = .ok (.aload_n 1, 1) := by decide +kernel
theorem dxn_2 : decode prog_16_method_10_code 2 = .ok (.invokevirtual 86, 3) := by decide +kernel
theorem dxn_5 : decode prog_16_method_10_code 5 = .ok (.i2l, 1) := by decide +kernel
theorem dxn_6 : decode prog_16_method_10_code 6 = .ok (.invokevirtual 94, 3) := by decide +kernel
theorem dxn_9 : decode prog_16_method_10_code 9 = .ok (.aload_n 0, 1) := by decide +kernel
theorem dxn_10 : decode prog_16_method_10_code 10 = .ok (.aload_n 1, 1) := by decide +kernel
theorem dxn_11 : decode prog_16_method_10_code 11 = .ok (.iconst 0, 1) := by decide +kernel
theorem dxn_12 : decode prog_16_method_10_code 12 = .ok (.aload_n 1, 1) := by decide +kernel
theorem dxn_13 : decode prog_16_method_10_code 13 = .ok (.invokevirtual 86, 3) := by decide +kernel
theorem dxn_16 : decode prog_16_method_10_code 16 = .ok (.invokevirtual 101, 3) := by decide +kernel
theorem dxn_19 : decode prog_16_method_10_code 19 = .ok (.return_, 1) := by decide +kernel
theorem pd16 : parseMethodDescriptor "(Ljava/lang/String;)V" = some ⟨[(.object "java/lang/String")], none⟩ := by decide +kernel
theorem efxn (m : MethodId) (r0 : Addr) (r1 : Addr) : entryFrame m #[(.ref r0), (.ref r1)] 2 = mkF m 0 #[.val (.ref r0), .val (.ref r1)] [] := by first | (simp [entryFrame, mkF, argsToLocals, Value.category]; done) | rfl
set_option maxRecDepth 65536 in
set_option maxHeartbeats 40000000 in
theorem rmxn (l : Launch) (Z : State) (a0 : Array Value) (hw : ∀ d ∈ tables_1, d.before a0 Z = true) (ws : List Jvm.Cond) (r0 : Addr) (r1 : Addr) (h0 : Heap) (n0 : Nat) (Z0 : n0 ≤ h0.size) (r5 : Addr) (k5 : ClassId) (w0 : Int32) (w1 : Int32) (z5 : Int32) (E_a : Exa Z h0 r0 "com/example/envelope/envelope/JsonOutput") (F_b : Fld Z h0 r0 "com/example/envelope/envelope/JsonOutput" "bytes" "[B" (.ref r5)) (F_l : Fld Z h0 r0 "com/example/envelope/envelope/JsonOutput" "length" "I" (.int (2 : Int32))) (A_t : Arv Z h0 r5 k5 .byte z5 [(.int w0), (.int w1)] (.int (0 : Int32))) (g_a : n0 ≤ r0) (g_t : n0 ≤ r5) (hq5 : ¬ z5 < (4 : Int32) ∧ z5 < 8) (r6 : Addr) (k6 : ClassId) (b0 : Int32) (b1 : Int32) (E_s : Exa Z h0 r1 "java/lang/String") (F_v : Fld Z h0 r1 "java/lang/String" "value" "[B" (.ref r6)) (F_c : Fld Z h0 r1 "java/lang/String" "coder" "B" (.int (0 : Int32))) (A_s : Arv Z h0 r6 k6 .byte (2 : Int32) [(.int b0), (.int b1)] (.int (0 : Int32))) (hne : r6 ≠ r5) (ic : Int32) (SC : Sta Z Z.heap "java/lang/String" "COMPACT_STRINGS" "Z" (.int ic)) (hz : ¬ ic = 0) (O0 : Old Z n0 h0) (fm : Value) (SF : Sta Z Z.heap "jdk/internal/util/Preconditions" "SIOOBE_FORMATTER" "Ljava/util/function/BiFunction;" fm) (rf : fm.isRef = true) :
    own_Met l (⟨"com/example/envelope/envelope/JsonOutput", "appendAscii", "(Ljava/lang/String;)V"⟩ : MethodName) prog_16_method_10_code 2 none ({ frames := 4, cells := 0, slots := 0, locals := 74 } : Room) ws #[(.ref r0), (.ref r1)] Z h0 0 0 (fun v h L => v = none ∧ Fr n0 L ∧ Keep h0 h [r0, r5] ∧ Fld Z h r0 "com/example/envelope/envelope/JsonOutput" "bytes" "[B" (.ref r5) ∧ Fld Z h r0 "com/example/envelope/envelope/JsonOutput" "length" "I" (.int (4 : Int32)) ∧ Arv Z h r5 k5 .byte z5 [(.int w0), (.int w1), (.int b0), (.int b1)] (.int (0 : Int32))) := by
  refine own_met (plainFor_of_name pn1) ?_
  intro p e s m below meth c s₁ hx hby hml hown hnm hret hlk hZ e0 X0
  have hml : c.maxLocals = 2 := hml
  have N0 := Fr.nil n0
  have K0 := Keep.refl h0 [r0, r5]
  refine own_go (fun _ k => castTop (efxn m r0 r1) k) ?_
  show own_Fin p.tables e below _ (s₁.setTop (mkF m 0 #[.val (.ref r0), .val (.ref r1)] []))
  refine own_go (fun _ k => XS.aloadN X0.here hx rfl (hb hby dxn_0) rfl rfl k) ?_
  show own_Fin p.tables e below _ (s₁.setTop (mkF m 1 #[.val (.ref r0), .val (.ref r1)] [(.ref r0)]))
  refine own_go (fun _ k => XS.aloadN X0.here hx rfl (hb hby dxn_1) rfl rfl k) ?_
  show own_Fin p.tables e below _ (s₁.setTop (mkF m 2 #[.val (.ref r0), .val (.ref r1)] [(.ref r1), (.ref r0)]))
  obtain ⟨_, T1, L1, X1, ⟨rfl, M1, e1⟩, st1⟩ := own_callV X0 hx hZ hown (hw _ (List.mem_of_getElem? (i := 81) rfl)) (hw _ (List.mem_of_getElem? (i := 82) rfl)) (hw _ (List.mem_of_getElem? (i := 84) rfl)) (hw _ (List.mem_of_getElem? (i := 83) rfl)) (hw _ (List.mem_of_getElem? (i := 3) rfl)) (hw _ (List.mem_of_getElem? (i := 85) rfl)) (by decide) (W := 1) (rmsn l Z a0 hw [] r1 h0 n0 (Nat.le_trans Z0 K0.1) r6 k6 b0 b1 E_s F_v F_c A_s ic SC hz O0) (by decide) (by decide) e0 E_s (g := (mkF m 2 #[.val (.ref r0), .val (.ref r1)] [(.ref r1), (.ref r0)])) rfl (by rw [hml]; rfl) (argsL := []) (rest := [(.ref r0)]) rfl (lenOf pd8 rfl) rfl (by show 2 * 0 + _ ≤ _; exact Nat.le_of_eq rfl) (hb hby dxn_2) (by decide) (by decide)
  have N1 := Fr.app N0 M1
  refine own_go st1 ?_
  show own_Fin p.tables e below _ (T1.setTop (mkF m 5 #[.val (.ref r0), .val (.ref r1)] [(.int (2 : Int32)), (.ref r0)]))
  refine own_go (fun _ k => XT.i2l X1.here hx rfl (hb hby dxn_5) rfl k) ?_
  show own_Fin p.tables e below _ (T1.setTop (mkF m 6 #[.val (.ref r0), .val (.ref r1)] [(.long ((2 : Int32).toInt64)), (.ref r0)]))
  rw [show ((2 : Int32).toInt64) = (2 : Int64) from by decide +kernel]
  show own_Fin p.tables e below _ (T1.setTop (mkF m 6 #[.val (.ref r0), .val (.ref r1)] [(.long (2 : Int64)), (.ref r0)]))
  obtain ⟨_, T2, L2, X2, ⟨rfl, M2, e2⟩, st2⟩ := own_callP X1 hx hZ hown (hw _ (List.mem_of_getElem? (i := 44) rfl)) (hw _ (List.mem_of_getElem? (i := 45) rfl)) (hw _ (List.mem_of_getElem? (i := 46) rfl)) (hw _ (List.mem_of_getElem? (i := 31) rfl)) (hw _ (List.mem_of_getElem? (i := 32) rfl)) (hw _ (List.mem_of_getElem? (i := 47) rfl)) (by decide) (W := 0) (rmen l Z a0 hw [] r0 (2 : Int64) h0 n0 (Nat.le_trans Z0 K0.1) r5 k5 (2 : Int32) z5 [(.int w0), (.int w1)] (.int (0 : Int32)) E_a F_b F_l A_t (own_ng22 hq5)) (by decide) (by decide) e1 E_a (g := (mkF m 6 #[.val (.ref r0), .val (.ref r1)] [(.long (2 : Int64)), (.ref r0)])) rfl (by rw [hml]; rfl) (argsL := [(.long (2 : Int64))]) (rest := []) rfl (lenOf pd3 rfl) rfl (by show 2 * 0 + _ ≤ _; exact Nat.le_of_eq rfl) (hb hby dxn_6) (by decide) (by decide)
  have N2 := Fr.app N1 M2
  refine own_go st2 ?_
  show own_Fin p.tables e below _ (T2.setTop (mkF m 9 #[.val (.ref r0), .val (.ref r1)] []))
  refine own_go (fun _ k => XS.aloadN X2.here hx rfl (hb hby dxn_9) rfl rfl k) ?_
  show own_Fin p.tables e below _ (T2.setTop (mkF m 10 #[.val (.ref r0), .val (.ref r1)] [(.ref r0)]))
  refine own_go (fun _ k => XS.aloadN X2.here hx rfl (hb hby dxn_10) rfl rfl k) ?_
  show own_Fin p.tables e below _ (T2.setTop (mkF m 11 #[.val (.ref r0), .val (.ref r1)] [(.ref r1), (.ref r0)]))
  refine own_go (fun _ k => XT.iconstV X2.here hx rfl (0 : Int32) (hb hby dxn_11) (by decide) k) ?_
  show own_Fin p.tables e below _ (T2.setTop (mkF m 12 #[.val (.ref r0), .val (.ref r1)] [(.int (0 : Int32)), (.ref r1), (.ref r0)]))
  refine own_go (fun _ k => XS.aloadN X2.here hx rfl (hb hby dxn_12) rfl rfl k) ?_
  show own_Fin p.tables e below _ (T2.setTop (mkF m 13 #[.val (.ref r0), .val (.ref r1)] [(.ref r1), (.int (0 : Int32)), (.ref r1), (.ref r0)]))
  obtain ⟨_, T3, L3, X3, ⟨rfl, M3, e3⟩, st3⟩ := own_callV X2 hx hZ hown (hw _ (List.mem_of_getElem? (i := 81) rfl)) (hw _ (List.mem_of_getElem? (i := 82) rfl)) (hw _ (List.mem_of_getElem? (i := 84) rfl)) (hw _ (List.mem_of_getElem? (i := 83) rfl)) (hw _ (List.mem_of_getElem? (i := 3) rfl)) (hw _ (List.mem_of_getElem? (i := 85) rfl)) (by decide) (W := 3) (rmsn l Z a0 hw [] r1 h0 n0 (Nat.le_trans Z0 K0.1) r6 k6 b0 b1 E_s F_v F_c A_s ic SC hz O0) (by decide) (by decide) e2 E_s (g := (mkF m 13 #[.val (.ref r0), .val (.ref r1)] [(.ref r1), (.int (0 : Int32)), (.ref r1), (.ref r0)])) rfl (by rw [hml]; rfl) (argsL := []) (rest := [(.int (0 : Int32)), (.ref r1), (.ref r0)]) rfl (lenOf pd8 rfl) rfl (by show 2 * 0 + _ ≤ _; exact Nat.le_of_eq rfl) (hb hby dxn_13) (by decide) (by decide)
  have N3 := Fr.app N2 M3
  refine own_go st3 ?_
  show own_Fin p.tables e below _ (T3.setTop (mkF m 16 #[.val (.ref r0), .val (.ref r1)] [(.int (2 : Int32)), (.int (0 : Int32)), (.ref r1), (.ref r0)]))
  obtain ⟨_, T4, L4, X4, ⟨rfl, M4, KK4, Gb4, Gl4, Ga4⟩, st4⟩ := own_callP X3 hx hZ hown (hw _ (List.mem_of_getElem? (i := 91) rfl)) (hw _ (List.mem_of_getElem? (i := 92) rfl)) (hw _ (List.mem_of_getElem? (i := 93) rfl)) (hw _ (List.mem_of_getElem? (i := 31) rfl)) (hw _ (List.mem_of_getElem? (i := 32) rfl)) (hw _ (List.mem_of_getElem? (i := 94) rfl)) (by decide) (W := 0) (rmca l Z a0 hw [] r0 r1 h0 n0 (Nat.le_trans Z0 K0.1) r5 k5 w0 w1 z5 E_a F_b F_l A_t g_a g_t hq5 r6 k6 b0 b1 E_s F_v F_c A_s hne ic SC hz O0 fm SF rf) (by decide) (by decide) e3 E_a (g := (mkF m 16 #[.val (.ref r0), .val (.ref r1)] [(.int (2 : Int32)), (.int (0 : Int32)), (.ref r1), (.ref r0)])) rfl (by rw [hml]; rfl) (argsL := [(.ref r1), (.int (0 : Int32)), (.int (2 : Int32))]) (rest := []) rfl (lenOf pd15 rfl) rfl (by show 2 * 0 + _ ≤ _; exact Nat.le_of_eq rfl) (hb hby dxn_16) (by decide) (by decide)
  have N4 := Fr.app N3 M4
  have Er0_4 := E_a.keep KK4
  have Er1_4 := E_s.keep KK4
  have Fr1_value_4 := F_v.keep KK4 (ninS (Ne.symm (Exa.ne E_a E_s (by decide))) (ninS (Exa.neArv E_s A_t (hw _ (List.mem_of_getElem? (i := 2) rfl))) nin0))
  have Fr1_coder_4 := F_c.keep KK4 (ninS (Ne.symm (Exa.ne E_a E_s (by decide))) (ninS (Exa.neArv E_s A_t (hw _ (List.mem_of_getElem? (i := 2) rfl))) nin0))
  have Vr6_4 := A_s.keep KK4 (ninS (Ne.symm (Exa.neArv E_a A_s (hw _ (List.mem_of_getElem? (i := 31) rfl)))) (ninS hne nin0))
  have O_4 := O0.keep KK4 (allS g_a (allS g_t all0))
  have K4 := K0.trans KK4 (allS (Or.inl (List.mem_of_getElem? (i := 0) rfl)) (allS (Or.inl (List.mem_of_getElem? (i := 1) rfl)) all0))
  refine own_go st4 ?_
  show own_Fin p.tables e below _ (T4.setTop (mkF m 19 #[.val (.ref r0), .val (.ref r1)] []))
  refine own_retV X4 hx hlk hret (hb hby dxn_19) ?_ (by decide) (by decide)
  show _ ∧ _ ∧ Keep h0 T4.heap _ ∧ _
  exact ⟨rfl, N4, K4, Gb4, Gl4, Ga4⟩
theorem dx2_0 : decode prog_16_method_10_code 0 = .ok (.aload_n 0, 1) := by decide +kernel
theorem dx2_1 : decode prog_16_method_10_code 1 = .ok (.aload_n 1, 1) := by decide +kernel
theorem dx2_2 : decode prog_16_method_10_code 2 = .ok (.invokevirtual 86, 3) := by decide +kernel
theorem dx2_5 : decode prog_16_method_10_code 5 = .ok (.i2l, 1) := by decide +kernel
theorem dx2_6 : decode prog_16_method_10_code 6 = .ok (.invokevirtual 94, 3) := by decide +kernel
theorem dx2_9 : decode prog_16_method_10_code 9 = .ok (.aload_n 0, 1) := by decide +kernel
theorem dx2_10 : decode prog_16_method_10_code 10 = .ok (.aload_n 1, 1) := by decide +kernel
theorem dx2_11 : decode prog_16_method_10_code 11 = .ok (.iconst 0, 1) := by decide +kernel
theorem dx2_12 : decode prog_16_method_10_code 12 = .ok (.aload_n 1, 1) := by decide +kernel
theorem dx2_13 : decode prog_16_method_10_code 13 = .ok (.invokevirtual 86, 3) := by decide +kernel
theorem dx2_16 : decode prog_16_method_10_code 16 = .ok (.invokevirtual 101, 3) := by decide +kernel
theorem dx2_19 : decode prog_16_method_10_code 19 = .ok (.return_, 1) := by decide +kernel
theorem efx2 (m : MethodId) (r0 : Addr) (r1 : Addr) : entryFrame m #[(.ref r0), (.ref r1)] 2 = mkF m 0 #[.val (.ref r0), .val (.ref r1)] [] := by first | (simp [entryFrame, mkF, argsToLocals, Value.category]; done) | rfl
set_option maxRecDepth 65536 in
set_option maxHeartbeats 40000000 in
theorem rmx2 (l : Launch) (Z : State) (a0 : Array Value) (hw : ∀ d ∈ tables_1, d.before a0 Z = true) (ws : List Jvm.Cond) (r0 : Addr) (r1 : Addr) (h0 : Heap) (n0 : Nat) (Z0 : n0 ≤ h0.size) (r5 : Addr) (k5 : ClassId) (w0 : Int32) (w1 : Int32) (E_a : Exa Z h0 r0 "com/example/envelope/envelope/JsonOutput") (F_b : Fld Z h0 r0 "com/example/envelope/envelope/JsonOutput" "bytes" "[B" (.ref r5)) (F_l : Fld Z h0 r0 "com/example/envelope/envelope/JsonOutput" "length" "I" (.int (2 : Int32))) (A_t : Arv Z h0 r5 k5 .byte (2 : Int32) [(.int w0), (.int w1)] (.int (0 : Int32))) (g_a : n0 ≤ r0) (g_t : n0 ≤ r5) (r6 : Addr) (k6 : ClassId) (b0 : Int32) (b1 : Int32) (E_s : Exa Z h0 r1 "java/lang/String") (F_v : Fld Z h0 r1 "java/lang/String" "value" "[B" (.ref r6)) (F_c : Fld Z h0 r1 "java/lang/String" "coder" "B" (.int (0 : Int32))) (A_s : Arv Z h0 r6 k6 .byte (2 : Int32) [(.int b0), (.int b1)] (.int (0 : Int32))) (hne : r6 ≠ r5) (ic : Int32) (SC : Sta Z Z.heap "java/lang/String" "COMPACT_STRINGS" "Z" (.int ic)) (hz : ¬ ic = 0) (O0 : Old Z n0 h0) (fm : Value) (SF : Sta Z Z.heap "jdk/internal/util/Preconditions" "SIOOBE_FORMATTER" "Ljava/util/function/BiFunction;" fm) (rf : fm.isRef = true) :
    own_Met l (⟨"com/example/envelope/envelope/JsonOutput", "appendAscii", "(Ljava/lang/String;)V"⟩ : MethodName) prog_16_method_10_code 2 none ({ frames := 4, cells := 1, slots := 4, locals := 74 } : Room) ws #[(.ref r0), (.ref r1)] Z h0 1 4 (fun v h L => v = none ∧ Fr n0 L ∧ Keep h0 h [r0] ∧ ∃ b k, Fld Z h r0 "com/example/envelope/envelope/JsonOutput" "bytes" "[B" (.ref b) ∧ Fld Z h r0 "com/example/envelope/envelope/JsonOutput" "length" "I" (.int (4 : Int32)) ∧ h0.size ≤ b ∧ Arv Z h b k .byte (4 : Int32) [(.int w0), (.int w1), (.int b0), (.int b1)] (.int (0 : Int32))) := by
  refine own_met (plainFor_of_name pn1) ?_
  intro p e s m below meth c s₁ hx hby hml hown hnm hret hlk hZ e0 X0
  have hml : c.maxLocals = 2 := hml
  have N0 := Fr.nil n0
  have K0 := Keep.refl h0 [r0]
  refine own_go (fun _ k => castTop (efx2 m r0 r1) k) ?_
  show own_Fin p.tables e below _ (s₁.setTop (mkF m 0 #[.val (.ref r0), .val (.ref r1)] []))
  refine own_go (fun _ k => XS.aloadN X0.here hx rfl (hb hby dx2_0) rfl rfl k) ?_
  show own_Fin p.tables e below _ (s₁.setTop (mkF m 1 #[.val (.ref r0), .val (.ref r1)] [(.ref r0)]))
  refine own_go (fun _ k => XS.aloadN X0.here hx rfl (hb hby dx2_1) rfl rfl k) ?_
  show own_Fin p.tables e below _ (s₁.setTop (mkF m 2 #[.val (.ref r0), .val (.ref r1)] [(.ref r1), (.ref r0)]))
  obtain ⟨_, T1, L1, X1, ⟨rfl, M1, e1⟩, st1⟩ := own_callV X0 hx hZ hown (hw _ (List.mem_of_getElem? (i := 81) rfl)) (hw _ (List.mem_of_getElem? (i := 82) rfl)) (hw _ (List.mem_of_getElem? (i := 84) rfl)) (hw _ (List.mem_of_getElem? (i := 83) rfl)) (hw _ (List.mem_of_getElem? (i := 3) rfl)) (hw _ (List.mem_of_getElem? (i := 85) rfl)) (by decide) (W := 1) (rmsn l Z a0 hw [] r1 h0 n0 (Nat.le_trans Z0 K0.1) r6 k6 b0 b1 E_s F_v F_c A_s ic SC hz O0) (by decide) (by decide) e0 E_s (g := (mkF m 2 #[.val (.ref r0), .val (.ref r1)] [(.ref r1), (.ref r0)])) rfl (by rw [hml]; rfl) (argsL := []) (rest := [(.ref r0)]) rfl (lenOf pd8 rfl) rfl (by show 2 * 0 + _ ≤ _; exact Nat.le_of_eq rfl) (hb hby dx2_2) (by decide) (by decide)
  have N1 := Fr.app N0 M1
  refine own_go st1 ?_
  show own_Fin p.tables e below _ (T1.setTop (mkF m 5 #[.val (.ref r0), .val (.ref r1)] [(.int (2 : Int32)), (.ref r0)]))
  refine own_go (fun _ k => XT.i2l X1.here hx rfl (hb hby dx2_5) rfl k) ?_
  show own_Fin p.tables e below _ (T1.setTop (mkF m 6 #[.val (.ref r0), .val (.ref r1)] [(.long ((2 : Int32).toInt64)), (.ref r0)]))
  rw [show ((2 : Int32).toInt64) = (2 : Int64) from by decide +kernel]
  show own_Fin p.tables e below _ (T1.setTop (mkF m 6 #[.val (.ref r0), .val (.ref r1)] [(.long (2 : Int64)), (.ref r0)]))
  obtain ⟨_, T2, L2, X2, ⟨rfl, M2, KK2, b2, kb2, Gb2, Gl2, q2, Ga2⟩, st2⟩ := own_callP X1 hx hZ hown (hw _ (List.mem_of_getElem? (i := 44) rfl)) (hw _ (List.mem_of_getElem? (i := 45) rfl)) (hw _ (List.mem_of_getElem? (i := 46) rfl)) (hw _ (List.mem_of_getElem? (i := 31) rfl)) (hw _ (List.mem_of_getElem? (i := 32) rfl)) (hw _ (List.mem_of_getElem? (i := 47) rfl)) (by decide) (W := 0) (rmg22 l Z a0 hw [] r0 h0 n0 (Nat.le_trans Z0 K0.1) r5 k5 w0 w1  E_a F_b F_l A_t g_a g_t) (by decide) (by decide) e1 E_a (g := (mkF m 6 #[.val (.ref r0), .val (.ref r1)] [(.long (2 : Int64)), (.ref r0)])) rfl (by rw [hml]; rfl) (argsL := [(.long (2 : Int64))]) (rest := []) rfl (lenOf pd3 rfl) rfl (by show 2 * 0 + _ ≤ _; exact Nat.le_of_eq rfl) (hb hby dx2_6) (by decide) (by decide)
  have N2 := Fr.app N1 M2
  have ne_r0_b2 : r0 ≠ b2 := own_lt_ne E_a.lt q2
  have ne_r5_b2 : r5 ≠ b2 := own_lt_ne A_t.lt q2
  have ne_r1_b2 : r1 ≠ b2 := own_lt_ne E_s.lt q2
  have ne_r6_b2 : r6 ≠ b2 := own_lt_ne A_s.lt q2
  have Er0_2 := E_a.keep KK2
  have Vr5_2 := A_t.keep KK2 (ninS (Ne.symm (Exa.neArv E_a A_t (hw _ (List.mem_of_getElem? (i := 31) rfl)))) nin0)
  have Er1_2 := E_s.keep KK2
  have Fr1_value_2 := F_v.keep KK2 (ninS (Ne.symm (Exa.ne E_a E_s (by decide))) nin0)
  have Fr1_coder_2 := F_c.keep KK2 (ninS (Ne.symm (Exa.ne E_a E_s (by decide))) nin0)
  have Vr6_2 := A_s.keep KK2 (ninS (Ne.symm (Exa.neArv E_a A_s (hw _ (List.mem_of_getElem? (i := 31) rfl)))) nin0)
  have O_2 := O0.keep KK2 (allS g_a all0)
  have K2 := K0.trans KK2 (allS (Or.inl (List.mem_of_getElem? (i := 0) rfl)) all0)
  refine own_go st2 ?_
  show own_Fin p.tables e below _ (T2.setTop (mkF m 9 #[.val (.ref r0), .val (.ref r1)] []))
  refine own_go (fun _ k => XS.aloadN X2.here hx rfl (hb hby dx2_9) rfl rfl k) ?_
  show own_Fin p.tables e below _ (T2.setTop (mkF m 10 #[.val (.ref r0), .val (.ref r1)] [(.ref r0)]))
  refine own_go (fun _ k => XS.aloadN X2.here hx rfl (hb hby dx2_10) rfl rfl k) ?_
  show own_Fin p.tables e below _ (T2.setTop (mkF m 11 #[.val (.ref r0), .val (.ref r1)] [(.ref r1), (.ref r0)]))
  refine own_go (fun _ k => XT.iconstV X2.here hx rfl (0 : Int32) (hb hby dx2_11) (by decide) k) ?_
  show own_Fin p.tables e below _ (T2.setTop (mkF m 12 #[.val (.ref r0), .val (.ref r1)] [(.int (0 : Int32)), (.ref r1), (.ref r0)]))
  refine own_go (fun _ k => XS.aloadN X2.here hx rfl (hb hby dx2_12) rfl rfl k) ?_
  show own_Fin p.tables e below _ (T2.setTop (mkF m 13 #[.val (.ref r0), .val (.ref r1)] [(.ref r1), (.int (0 : Int32)), (.ref r1), (.ref r0)]))
  obtain ⟨_, T3, L3, X3, ⟨rfl, M3, e3⟩, st3⟩ := own_callV X2 hx hZ hown (hw _ (List.mem_of_getElem? (i := 81) rfl)) (hw _ (List.mem_of_getElem? (i := 82) rfl)) (hw _ (List.mem_of_getElem? (i := 84) rfl)) (hw _ (List.mem_of_getElem? (i := 83) rfl)) (hw _ (List.mem_of_getElem? (i := 3) rfl)) (hw _ (List.mem_of_getElem? (i := 85) rfl)) (by decide) (W := 3) (rmsn l Z a0 hw [] r1 T2.heap n0 (Nat.le_trans Z0 K2.1) r6 k6 b0 b1 Er1_2 Fr1_value_2 Fr1_coder_2 Vr6_2 ic SC hz O_2) (by decide) (by decide) rfl Er1_2 (g := (mkF m 13 #[.val (.ref r0), .val (.ref r1)] [(.ref r1), (.int (0 : Int32)), (.ref r1), (.ref r0)])) rfl (by rw [hml]; rfl) (argsL := []) (rest := [(.int (0 : Int32)), (.ref r1), (.ref r0)]) rfl (lenOf pd8 rfl) rfl (by show 2 * 0 + _ ≤ _; exact Nat.le_of_eq rfl) (hb hby dx2_13) (by decide) (by decide)
  have N3 := Fr.app N2 M3
  refine own_go st3 ?_
  show own_Fin p.tables e below _ (T3.setTop (mkF m 16 #[.val (.ref r0), .val (.ref r1)] [(.int (2 : Int32)), (.int (0 : Int32)), (.ref r1), (.ref r0)]))
  obtain ⟨_, T4, L4, X4, ⟨rfl, M4, KK4, Gb4, Gl4, Ga4⟩, st4⟩ := own_callP X3 hx hZ hown (hw _ (List.mem_of_getElem? (i := 91) rfl)) (hw _ (List.mem_of_getElem? (i := 92) rfl)) (hw _ (List.mem_of_getElem? (i := 93) rfl)) (hw _ (List.mem_of_getElem? (i := 31) rfl)) (hw _ (List.mem_of_getElem? (i := 32) rfl)) (hw _ (List.mem_of_getElem? (i := 94) rfl)) (by decide) (W := 0) (rmca l Z a0 hw [] r0 r1 T2.heap n0 (Nat.le_trans Z0 K2.1) b2 kb2 w0 w1 (4 : Int32) Er0_2 Gb2 Gl2 Ga2 g_a (Nat.le_trans Z0 (Nat.le_trans K0.1 q2)) (by decide) r6 k6 b0 b1 Er1_2 Fr1_value_2 Fr1_coder_2 Vr6_2 ne_r6_b2 ic SC hz O_2 fm SF rf) (by decide) (by decide) e3 Er0_2 (g := (mkF m 16 #[.val (.ref r0), .val (.ref r1)] [(.int (2 : Int32)), (.int (0 : Int32)), (.ref r1), (.ref r0)])) rfl (by rw [hml]; rfl) (argsL := [(.ref r1), (.int (0 : Int32)), (.int (2 : Int32))]) (rest := []) rfl (lenOf pd15 rfl) rfl (by show 2 * 0 + _ ≤ _; exact Nat.le_of_eq rfl) (hb hby dx2_16) (by decide) (by decide)
  have N4 := Fr.app N3 M4
  have Er0_4 := Er0_2.keep KK4
  have Vr5_4 := Vr5_2.keep KK4 (ninS (Ne.symm (Exa.neArv E_a A_t (hw _ (List.mem_of_getElem? (i := 31) rfl)))) (ninS ne_r5_b2 nin0))
  have Er1_4 := Er1_2.keep KK4
  have Fr1_value_4 := Fr1_value_2.keep KK4 (ninS (Ne.symm (Exa.ne E_a E_s (by decide))) (ninS ne_r1_b2 nin0))
  have Fr1_coder_4 := Fr1_coder_2.keep KK4 (ninS (Ne.symm (Exa.ne E_a E_s (by decide))) (ninS ne_r1_b2 nin0))
  have Vr6_4 := Vr6_2.keep KK4 (ninS (Ne.symm (Exa.neArv E_a A_s (hw _ (List.mem_of_getElem? (i := 31) rfl)))) (ninS ne_r6_b2 nin0))
  have O_4 := O_2.keep KK4 (allS g_a (allS (Nat.le_trans Z0 (Nat.le_trans K0.1 q2)) all0))
  have K4 := K2.trans KK4 (allS (Or.inl (List.mem_of_getElem? (i := 0) rfl)) (allS (Or.inr (Nat.le_trans K0.1 q2)) all0))
  refine own_go st4 ?_
  show own_Fin p.tables e below _ (T4.setTop (mkF m 19 #[.val (.ref r0), .val (.ref r1)] []))
  refine own_retV X4 hx hlk hret (hb hby dx2_19) ?_ (by decide) (by decide)
  show _ ∧ _ ∧ Keep h0 T4.heap _ ∧ _
  exact ⟨rfl, N4, K4, b2, kb2, Gb4, Gl4, (Nat.le_trans K0.1 q2), Ga4⟩
theorem dx3_0 : decode prog_16_method_10_code 0 = .ok (.aload_n 0, 1) := by decide +kernel
theorem dx3_1 : decode prog_16_method_10_code 1 = .ok (.aload_n 1, 1) := by decide +kernel
theorem dx3_2 : decode prog_16_method_10_code 2 = .ok (.invokevirtual 86, 3) := by decide +kernel
theorem dx3_5 : decode prog_16_method_10_code 5 = .ok (.i2l, 1) := by decide +kernel
theorem dx3_6 : decode prog_16_method_10_code 6 = .ok (.invokevirtual 94, 3) := by decide +kernel
theorem dx3_9 : decode prog_16_method_10_code 9 = .ok (.aload_n 0, 1) := by decide +kernel
theorem dx3_10 : decode prog_16_method_10_code 10 = .ok (.aload_n 1, 1) := by decide +kernel
theorem dx3_11 : decode prog_16_method_10_code 11 = .ok (.iconst 0, 1) := by decide +kernel
theorem dx3_12 : decode prog_16_method_10_code 12 = .ok (.aload_n 1, 1) := by decide +kernel
theorem dx3_13 : decode prog_16_method_10_code 13 = .ok (.invokevirtual 86, 3) := by decide +kernel
theorem dx3_16 : decode prog_16_method_10_code 16 = .ok (.invokevirtual 101, 3) := by decide +kernel
theorem dx3_19 : decode prog_16_method_10_code 19 = .ok (.return_, 1) := by decide +kernel
theorem efx3 (m : MethodId) (r0 : Addr) (r1 : Addr) : entryFrame m #[(.ref r0), (.ref r1)] 2 = mkF m 0 #[.val (.ref r0), .val (.ref r1)] [] := by first | (simp [entryFrame, mkF, argsToLocals, Value.category]; done) | rfl
set_option maxRecDepth 65536 in
set_option maxHeartbeats 40000000 in
theorem rmx3 (l : Launch) (Z : State) (a0 : Array Value) (hw : ∀ d ∈ tables_1, d.before a0 Z = true) (ws : List Jvm.Cond) (r0 : Addr) (r1 : Addr) (h0 : Heap) (n0 : Nat) (Z0 : n0 ≤ h0.size) (r5 : Addr) (k5 : ClassId) (w0 : Int32) (w1 : Int32) (E_a : Exa Z h0 r0 "com/example/envelope/envelope/JsonOutput") (F_b : Fld Z h0 r0 "com/example/envelope/envelope/JsonOutput" "bytes" "[B" (.ref r5)) (F_l : Fld Z h0 r0 "com/example/envelope/envelope/JsonOutput" "length" "I" (.int (2 : Int32))) (A_t : Arv Z h0 r5 k5 .byte (3 : Int32) [(.int w0), (.int w1)] (.int (0 : Int32))) (g_a : n0 ≤ r0) (g_t : n0 ≤ r5) (r6 : Addr) (k6 : ClassId) (b0 : Int32) (b1 : Int32) (E_s : Exa Z h0 r1 "java/lang/String") (F_v : Fld Z h0 r1 "java/lang/String" "value" "[B" (.ref r6)) (F_c : Fld Z h0 r1 "java/lang/String" "coder" "B" (.int (0 : Int32))) (A_s : Arv Z h0 r6 k6 .byte (2 : Int32) [(.int b0), (.int b1)] (.int (0 : Int32))) (hne : r6 ≠ r5) (ic : Int32) (SC : Sta Z Z.heap "java/lang/String" "COMPACT_STRINGS" "Z" (.int ic)) (hz : ¬ ic = 0) (O0 : Old Z n0 h0) (fm : Value) (SF : Sta Z Z.heap "jdk/internal/util/Preconditions" "SIOOBE_FORMATTER" "Ljava/util/function/BiFunction;" fm) (rf : fm.isRef = true) :
    own_Met l (⟨"com/example/envelope/envelope/JsonOutput", "appendAscii", "(Ljava/lang/String;)V"⟩ : MethodName) prog_16_method_10_code 2 none ({ frames := 4, cells := 1, slots := 6, locals := 74 } : Room) ws #[(.ref r0), (.ref r1)] Z h0 1 6 (fun v h L => v = none ∧ Fr n0 L ∧ Keep h0 h [r0] ∧ ∃ b k, Fld Z h r0 "com/example/envelope/envelope/JsonOutput" "bytes" "[B" (.ref b) ∧ Fld Z h r0 "com/example/envelope/envelope/JsonOutput" "length" "I" (.int (4 : Int32)) ∧ h0.size ≤ b ∧ Arv Z h b k .byte (6 : Int32) [(.int w0), (.int w1), (.int b0), (.int b1)] (.int (0 : Int32))) := by
  refine own_met (plainFor_of_name pn1) ?_
  intro p e s m below meth c s₁ hx hby hml hown hnm hret hlk hZ e0 X0
  have hml : c.maxLocals = 2 := hml
  have N0 := Fr.nil n0
  have K0 := Keep.refl h0 [r0]
  refine own_go (fun _ k => castTop (efx3 m r0 r1) k) ?_
  show own_Fin p.tables e below _ (s₁.setTop (mkF m 0 #[.val (.ref r0), .val (.ref r1)] []))
  refine own_go (fun _ k => XS.aloadN X0.here hx rfl (hb hby dx3_0) rfl rfl k) ?_
  show own_Fin p.tables e below _ (s₁.setTop (mkF m 1 #[.val (.ref r0), .val (.ref r1)] [(.ref r0)]))
  refine own_go (fun _ k => XS.aloadN X0.here hx rfl (hb hby dx3_1) rfl rfl k) ?_
  show own_Fin p.tables e below _ (s₁.setTop (mkF m 2 #[.val (.ref r0), .val (.ref r1)] [(.ref r1), (.ref r0)]))
  obtain ⟨_, T1, L1, X1, ⟨rfl, M1, e1⟩, st1⟩ := own_callV X0 hx hZ hown (hw _ (List.mem_of_getElem? (i := 81) rfl)) (hw _ (List.mem_of_getElem? (i := 82) rfl)) (hw _ (List.mem_of_getElem? (i := 84) rfl)) (hw _ (List.mem_of_getElem? (i := 83) rfl)) (hw _ (List.mem_of_getElem? (i := 3) rfl)) (hw _ (List.mem_of_getElem? (i := 85) rfl)) (by decide) (W := 1) (rmsn l Z a0 hw [] r1 h0 n0 (Nat.le_trans Z0 K0.1) r6 k6 b0 b1 E_s F_v F_c A_s ic SC hz O0) (by decide) (by decide) e0 E_s (g := (mkF m 2 #[.val (.ref r0), .val (.ref r1)] [(.ref r1), (.ref r0)])) rfl (by rw [hml]; rfl) (argsL := []) (rest := [(.ref r0)]) rfl (lenOf pd8 rfl) rfl (by show 2 * 0 + _ ≤ _; exact Nat.le_of_eq rfl) (hb hby dx3_2) (by decide) (by decide)
  have N1 := Fr.app N0 M1
  refine own_go st1 ?_
  show own_Fin p.tables e below _ (T1.setTop (mkF m 5 #[.val (.ref r0), .val (.ref r1)] [(.int (2 : Int32)), (.ref r0)]))
  refine own_go (fun _ k => XT.i2l X1.here hx rfl (hb hby dx3_5) rfl k) ?_
  show own_Fin p.tables e below _ (T1.setTop (mkF m 6 #[.val (.ref r0), .val (.ref r1)] [(.long ((2 : Int32).toInt64)), (.ref r0)]))
  rw [show ((2 : Int32).toInt64) = (2 : Int64) from by decide +kernel]
  show own_Fin p.tables e below _ (T1.setTop (mkF m 6 #[.val (.ref r0), .val (.ref r1)] [(.long (2 : Int64)), (.ref r0)]))
  obtain ⟨_, T2, L2, X2, ⟨rfl, M2, KK2, b2, kb2, Gb2, Gl2, q2, Ga2⟩, st2⟩ := own_callP X1 hx hZ hown (hw _ (List.mem_of_getElem? (i := 44) rfl)) (hw _ (List.mem_of_getElem? (i := 45) rfl)) (hw _ (List.mem_of_getElem? (i := 46) rfl)) (hw _ (List.mem_of_getElem? (i := 31) rfl)) (hw _ (List.mem_of_getElem? (i := 32) rfl)) (hw _ (List.mem_of_getElem? (i := 47) rfl)) (by decide) (W := 0) (rmg23 l Z a0 hw [] r0 h0 n0 (Nat.le_trans Z0 K0.1) r5 k5 w0 w1  E_a F_b F_l A_t g_a g_t) (by decide) (by decide) e1 E_a (g := (mkF m 6 #[.val (.ref r0), .val (.ref r1)] [(.long (2 : Int64)), (.ref r0)])) rfl (by rw [hml]; rfl) (argsL := [(.long (2 : Int64))]) (rest := []) rfl (lenOf pd3 rfl) rfl (by show 2 * 0 + _ ≤ _; exact Nat.le_of_eq rfl) (hb hby dx3_6) (by decide) (by decide)
  have N2 := Fr.app N1 M2
  have ne_r0_b2 : r0 ≠ b2 := own_lt_ne E_a.lt q2
  have ne_r5_b2 : r5 ≠ b2 := own_lt_ne A_t.lt q2
  have ne_r1_b2 : r1 ≠ b2 := own_lt_ne E_s.lt q2
  have ne_r6_b2 : r6 ≠ b2 := own_lt_ne A_s.lt q2
  have Er0_2 := E_a.keep KK2
  have Vr5_2 := A_t.keep KK2 (ninS (Ne.symm (Exa.neArv E_a A_t (hw _ (List.mem_of_getElem? (i := 31) rfl)))) nin0)
  have Er1_2 := E_s.keep KK2
  have Fr1_value_2 := F_v.keep KK2 (ninS (Ne.symm (Exa.ne E_a E_s (by decide))) nin0)
  have Fr1_coder_2 := F_c.keep KK2 (ninS (Ne.symm (Exa.ne E_a E_s (by decide))) nin0)
  have Vr6_2 := A_s.keep KK2 (ninS (Ne.symm (Exa.neArv E_a A_s (hw _ (List.mem_of_getElem? (i := 31) rfl)))) nin0)
  have O_2 := O0.keep KK2 (allS g_a all0)
  have K2 := K0.trans KK2 (allS (Or.inl (List.mem_of_getElem? (i := 0) rfl)) all0)
  refine own_go st2 ?_
  show own_Fin p.tables e below _ (T2.setTop (mkF m 9 #[.val (.ref r0), .val (.ref r1)] []))
  refine own_go (fun _ k => XS.aloadN X2.here hx rfl (hb hby dx3_9) rfl rfl k) ?_
  show own_Fin p.tables e below _ (T2.setTop (mkF m 10 #[.val (.ref r0), .val (.ref r1)] [(.ref r0)]))
  refine own_go (fun _ k => XS.aloadN X2.here hx rfl (hb hby dx3_10) rfl rfl k) ?_
  show own_Fin p.tables e below _ (T2.setTop (mkF m 11 #[.val (.ref r0), .val (.ref r1)] [(.ref r1), (.ref r0)]))
  refine own_go (fun _ k => XT.iconstV X2.here hx rfl (0 : Int32) (hb hby dx3_11) (by decide) k) ?_
  show own_Fin p.tables e below _ (T2.setTop (mkF m 12 #[.val (.ref r0), .val (.ref r1)] [(.int (0 : Int32)), (.ref r1), (.ref r0)]))
  refine own_go (fun _ k => XS.aloadN X2.here hx rfl (hb hby dx3_12) rfl rfl k) ?_
  show own_Fin p.tables e below _ (T2.setTop (mkF m 13 #[.val (.ref r0), .val (.ref r1)] [(.ref r1), (.int (0 : Int32)), (.ref r1), (.ref r0)]))
  obtain ⟨_, T3, L3, X3, ⟨rfl, M3, e3⟩, st3⟩ := own_callV X2 hx hZ hown (hw _ (List.mem_of_getElem? (i := 81) rfl)) (hw _ (List.mem_of_getElem? (i := 82) rfl)) (hw _ (List.mem_of_getElem? (i := 84) rfl)) (hw _ (List.mem_of_getElem? (i := 83) rfl)) (hw _ (List.mem_of_getElem? (i := 3) rfl)) (hw _ (List.mem_of_getElem? (i := 85) rfl)) (by decide) (W := 3) (rmsn l Z a0 hw [] r1 T2.heap n0 (Nat.le_trans Z0 K2.1) r6 k6 b0 b1 Er1_2 Fr1_value_2 Fr1_coder_2 Vr6_2 ic SC hz O_2) (by decide) (by decide) rfl Er1_2 (g := (mkF m 13 #[.val (.ref r0), .val (.ref r1)] [(.ref r1), (.int (0 : Int32)), (.ref r1), (.ref r0)])) rfl (by rw [hml]; rfl) (argsL := []) (rest := [(.int (0 : Int32)), (.ref r1), (.ref r0)]) rfl (lenOf pd8 rfl) rfl (by show 2 * 0 + _ ≤ _; exact Nat.le_of_eq rfl) (hb hby dx3_13) (by decide) (by decide)
  have N3 := Fr.app N2 M3
  refine own_go st3 ?_
  show own_Fin p.tables e below _ (T3.setTop (mkF m 16 #[.val (.ref r0), .val (.ref r1)] [(.int (2 : Int32)), (.int (0 : Int32)), (.ref r1), (.ref r0)]))
  obtain ⟨_, T4, L4, X4, ⟨rfl, M4, KK4, Gb4, Gl4, Ga4⟩, st4⟩ := own_callP X3 hx hZ hown (hw _ (List.mem_of_getElem? (i := 91) rfl)) (hw _ (List.mem_of_getElem? (i := 92) rfl)) (hw _ (List.mem_of_getElem? (i := 93) rfl)) (hw _ (List.mem_of_getElem? (i := 31) rfl)) (hw _ (List.mem_of_getElem? (i := 32) rfl)) (hw _ (List.mem_of_getElem? (i := 94) rfl)) (by decide) (W := 0) (rmca l Z a0 hw [] r0 r1 T2.heap n0 (Nat.le_trans Z0 K2.1) b2 kb2 w0 w1 (6 : Int32) Er0_2 Gb2 Gl2 Ga2 g_a (Nat.le_trans Z0 (Nat.le_trans K0.1 q2)) (by decide) r6 k6 b0 b1 Er1_2 Fr1_value_2 Fr1_coder_2 Vr6_2 ne_r6_b2 ic SC hz O_2 fm SF rf) (by decide) (by decide) e3 Er0_2 (g := (mkF m 16 #[.val (.ref r0), .val (.ref r1)] [(.int (2 : Int32)), (.int (0 : Int32)), (.ref r1), (.ref r0)])) rfl (by rw [hml]; rfl) (argsL := [(.ref r1), (.int (0 : Int32)), (.int (2 : Int32))]) (rest := []) rfl (lenOf pd15 rfl) rfl (by show 2 * 0 + _ ≤ _; exact Nat.le_of_eq rfl) (hb hby dx3_16) (by decide) (by decide)
  have N4 := Fr.app N3 M4
  have Er0_4 := Er0_2.keep KK4
  have Vr5_4 := Vr5_2.keep KK4 (ninS (Ne.symm (Exa.neArv E_a A_t (hw _ (List.mem_of_getElem? (i := 31) rfl)))) (ninS ne_r5_b2 nin0))
  have Er1_4 := Er1_2.keep KK4
  have Fr1_value_4 := Fr1_value_2.keep KK4 (ninS (Ne.symm (Exa.ne E_a E_s (by decide))) (ninS ne_r1_b2 nin0))
  have Fr1_coder_4 := Fr1_coder_2.keep KK4 (ninS (Ne.symm (Exa.ne E_a E_s (by decide))) (ninS ne_r1_b2 nin0))
  have Vr6_4 := Vr6_2.keep KK4 (ninS (Ne.symm (Exa.neArv E_a A_s (hw _ (List.mem_of_getElem? (i := 31) rfl)))) (ninS ne_r6_b2 nin0))
  have O_4 := O_2.keep KK4 (allS g_a (allS (Nat.le_trans Z0 (Nat.le_trans K0.1 q2)) all0))
  have K4 := K2.trans KK4 (allS (Or.inl (List.mem_of_getElem? (i := 0) rfl)) (allS (Or.inr (Nat.le_trans K0.1 q2)) all0))
  refine own_go st4 ?_
  show own_Fin p.tables e below _ (T4.setTop (mkF m 19 #[.val (.ref r0), .val (.ref r1)] []))
  refine own_retV X4 hx hlk hret (hb hby dx3_19) ?_ (by decide) (by decide)
  show _ ∧ _ ∧ Keep h0 T4.heap _ ∧ _
  exact ⟨rfl, N4, K4, b2, kb2, Gb4, Gl4, (Nat.le_trans K0.1 q2), Ga4⟩
theorem pd17 : parseMethodDescriptor "([C)V" = some ⟨[(.array .char)], none⟩ := by decide +kernel
theorem pn6 : plainName "com/example/envelope/envelope/JsonOutputLastPinLaw" = true := by first | (simp [plainName, overriddenIn]; done) | decide +kernel
theorem pd18 : parseMethodDescriptor "(IIIII)Z" = some ⟨[.int, .int, .int, .int, .int], some .boolean⟩ := by decide +kernel
theorem ef0 (m : MethodId) (i1 : Int32) (i2 : Int32) (i3 : Int32) (i4 : Int32) (i5 : Int32) : entryFrame m #[(.int i1), (.int i2), (.int i3), (.int i4), (.int i5)] maxLocals = mkF m 0 #[.val (.int i1), .val (.int i2), .val (.int i3), .val (.int i4), .val (.int i5), .unset, .unset, .unset, .unset, .unset, .unset, .unset, .unset] [] := by first | (simp [entryFrame, mkF, argsToLocals, Value.category, maxLocals]; done) | rfl
set_option maxRecDepth 65536 in
set_option maxHeartbeats 40000000 in
theorem rm0 (l : Launch) (Z : State) (a0 : Array Value) (hw : ∀ d ∈ tables_1, d.before a0 Z = true) (ws : List Jvm.Cond) (i1 : Int32) (i2 : Int32) (i3 : Int32) (i4 : Int32) (i5 : Int32) (h0 : Heap) (n0 : Nat) (Z0 : n0 ≤ h0.size) (ic : Int32) (SC : Sta Z Z.heap "java/lang/String" "COMPACT_STRINGS" "Z" (.int ic)) (hz : ¬ ic = 0) (O0 : Old Z n0 h0) (fm : Value) (SF : Sta Z Z.heap "jdk/internal/util/Preconditions" "SIOOBE_FORMATTER" "Ljava/util/function/BiFunction;" fm) (rf : fm.isRef = true) :
    own_Met l x code maxLocals ret room_1 ws #[(.int i1), (.int i2), (.int i3), (.int i4), (.int i5)] Z h0 24 128 (fun v h L => v = some (.int 1) ∧ Fr n0 L) := by
  refine own_met (plainFor_of_name pn6) ?_
  intro p e s m below meth c s₁ hx hby hml hown hnm hret hlk hZ e0 X0
  have hml : c.maxLocals = 13 := hml
  have N0 := Fr.nil n0
  have K0 := Keep.refl h0 []
  have hws : ∀ d ∈ StrChars.Road.words, d.before a0 Z = true := fun d hd => hw d ((by decide +kernel : ∀ d ∈ StrChars.Road.words, d ∈ tables_1) d hd)
  refine own_go (fun _ k => castTop (ef0 m i1 i2 i3 i4 i5) k) ?_
  show own_Fin p.tables e below _ (s₁.setTop (mkF m 0 #[.val (.int i1), .val (.int i2), .val (.int i3), .val (.int i4), .val (.int i5), .unset, .unset, .unset, .unset, .unset, .unset, .unset, .unset] []))
  refine own_go (fun _ k => XS.iloadN X0.here hx rfl (hb hby at_0) rfl k) ?_
  show own_Fin p.tables e below _ (s₁.setTop (mkF m 1 #[.val (.int i1), .val (.int i2), .val (.int i3), .val (.int i4), .val (.int i5), .unset, .unset, .unset, .unset, .unset, .unset, .unset, .unset] [(.int i2)]))
  refine own_go (fun _ k => XT.bipushV X0.here hx rfl (127 : Int32) (hb hby at_1) (by decide) k) ?_
  show own_Fin p.tables e below _ (s₁.setTop (mkF m 3 #[.val (.int i1), .val (.int i2), .val (.int i3), .val (.int i4), .val (.int i5), .unset, .unset, .unset, .unset, .unset, .unset, .unset, .unset] [(.int (127 : Int32)), (.int i2)]))
  refine own_go (fun _ k => XS.iand X0.here hx rfl (hb hby at_3) rfl k) ?_
  show own_Fin p.tables e below _ (s₁.setTop (mkF m 4 #[.val (.int i1), .val (.int i2), .val (.int i3), .val (.int i4), .val (.int i5), .unset, .unset, .unset, .unset, .unset, .unset, .unset, .unset] [(.int (i2 &&& (127 : Int32)))]))
  refine own_go (fun _ k => XT.i2c X0.here hx rfl (hb hby at_4) rfl k) ?_
  show own_Fin p.tables e below _ (s₁.setTop (mkF m 5 #[.val (.int i1), .val (.int i2), .val (.int i3), .val (.int i4), .val (.int i5), .unset, .unset, .unset, .unset, .unset, .unset, .unset, .unset] [(.int ((i2 &&& (127 : Int32)).toUInt32.toUInt16.toUInt32.toInt32))]))
  refine own_go (fun _ k => XS.istore X0.here hx rfl (hb hby at_5) rfl (l' := #[.val (.int i1), .val (.int i2), .val (.int i3), .val (.int i4), .val (.int i5), .val (.int ((i2 &&& (127 : Int32)).toUInt32.toUInt16.toUInt32.toInt32)), .unset, .unset, .unset, .unset, .unset, .unset, .unset]) rfl k) ?_
  show own_Fin p.tables e below _ (s₁.setTop (mkF m 7 #[.val (.int i1), .val (.int i2), .val (.int i3), .val (.int i4), .val (.int i5), .val (.int ((i2 &&& (127 : Int32)).toUInt32.toUInt16.toUInt32.toInt32)), .unset, .unset, .unset, .unset, .unset, .unset, .unset] []))
  refine own_go (fun _ k => XS.iloadN X0.here hx rfl (hb hby at_7) rfl k) ?_
  show own_Fin p.tables e below _ (s₁.setTop (mkF m 8 #[.val (.int i1), .val (.int i2), .val (.int i3), .val (.int i4), .val (.int i5), .val (.int ((i2 &&& (127 : Int32)).toUInt32.toUInt16.toUInt32.toInt32)), .unset, .unset, .unset, .unset, .unset, .unset, .unset] [(.int i3)]))
  refine own_go (fun _ k => XT.bipushV X0.here hx rfl (127 : Int32) (hb hby at_8) (by decide) k) ?_
  show own_Fin p.tables e below _ (s₁.setTop (mkF m 10 #[.val (.int i1), .val (.int i2), .val (.int i3), .val (.int i4), .val (.int i5), .val (.int ((i2 &&& (127 : Int32)).toUInt32.toUInt16.toUInt32.toInt32)), .unset, .unset, .unset, .unset, .unset, .unset, .unset] [(.int (127 : Int32)), (.int i3)]))
  refine own_go (fun _ k => XS.iand X0.here hx rfl (hb hby at_10) rfl k) ?_
  show own_Fin p.tables e below _ (s₁.setTop (mkF m 11 #[.val (.int i1), .val (.int i2), .val (.int i3), .val (.int i4), .val (.int i5), .val (.int ((i2 &&& (127 : Int32)).toUInt32.toUInt16.toUInt32.toInt32)), .unset, .unset, .unset, .unset, .unset, .unset, .unset] [(.int (i3 &&& (127 : Int32)))]))
  refine own_go (fun _ k => XT.i2c X0.here hx rfl (hb hby at_11) rfl k) ?_
  show own_Fin p.tables e below _ (s₁.setTop (mkF m 12 #[.val (.int i1), .val (.int i2), .val (.int i3), .val (.int i4), .val (.int i5), .val (.int ((i2 &&& (127 : Int32)).toUInt32.toUInt16.toUInt32.toInt32)), .unset, .unset, .unset, .unset, .unset, .unset, .unset] [(.int ((i3 &&& (127 : Int32)).toUInt32.toUInt16.toUInt32.toInt32))]))
  refine own_go (fun _ k => XS.istore X0.here hx rfl (hb hby at_12) rfl (l' := #[.val (.int i1), .val (.int i2), .val (.int i3), .val (.int i4), .val (.int i5), .val (.int ((i2 &&& (127 : Int32)).toUInt32.toUInt16.toUInt32.toInt32)), .val (.int ((i3 &&& (127 : Int32)).toUInt32.toUInt16.toUInt32.toInt32)), .unset, .unset, .unset, .unset, .unset, .unset]) rfl k) ?_
  show own_Fin p.tables e below _ (s₁.setTop (mkF m 14 #[.val (.int i1), .val (.int i2), .val (.int i3), .val (.int i4), .val (.int i5), .val (.int ((i2 &&& (127 : Int32)).toUInt32.toUInt16.toUInt32.toInt32)), .val (.int ((i3 &&& (127 : Int32)).toUInt32.toUInt16.toUInt32.toInt32)), .unset, .unset, .unset, .unset, .unset, .unset] []))
  refine own_go (fun _ k => XT.iconstV X0.here hx rfl (2 : Int32) (hb hby at_14) (by decide) k) ?_
  show own_Fin p.tables e below _ (s₁.setTop (mkF m 15 #[.val (.int i1), .val (.int i2), .val (.int i3), .val (.int i4), .val (.int i5), .val (.int ((i2 &&& (127 : Int32)).toUInt32.toUInt16.toUInt32.toInt32)), .val (.int ((i3 &&& (127 : Int32)).toUInt32.toUInt16.toUInt32.toInt32)), .unset, .unset, .unset, .unset, .unset, .unset] [(.int (2 : Int32))]))
  obtain ⟨T1, h1, k1, X1, e1, E1, A1, st1⟩ := newP X0 hx hZ (hw _ (List.mem_of_getElem? (i := 0) rfl)) e0 (g := (mkF m 15 #[.val (.int i1), .val (.int i2), .val (.int i3), .val (.int i4), .val (.int i5), .val (.int ((i2 &&& (127 : Int32)).toUInt32.toUInt16.toUInt32.toInt32)), .val (.int ((i3 &&& (127 : Int32)).toUInt32.toUInt16.toUInt32.toInt32)), .unset, .unset, .unset, .unset, .unset, .unset] [(.int (2 : Int32))])) rfl (hb hby at_15) rfl (by decide) (cap := 2) (by decide) (by decide) (by decide) (by decide)
  obtain ⟨a1, g1⟩ : ∃ z, z = h0.size := ⟨_, rfl⟩
  rw [← g1] at A1 st1
  have q1 : h0.size ≤ a1 := Nat.le_trans K0.1 (Nat.le_of_eq g1.symm)
  have z1 : n0 ≤ a1 := Nat.le_trans Z0 q1
  have O_1 := O0.ext E1
  have K1 := K0.ext E1
  have Va1 : Arv Z h1 a1 k1 .char (2 : Int32) [(.int (0 : Int32)), (.int (0 : Int32))] (.int (0 : Int32)) := (Arv.new A1 (by decide)).pad (pad_rep [] (.int (0 : Int32)) 2)
  refine own_go st1 ?_
  show own_Fin p.tables e below _ (T1.setTop (mkF m 17 #[.val (.int i1), .val (.int i2), .val (.int i3), .val (.int i4), .val (.int i5), .val (.int ((i2 &&& (127 : Int32)).toUInt32.toUInt16.toUInt32.toInt32)), .val (.int ((i3 &&& (127 : Int32)).toUInt32.toUInt16.toUInt32.toInt32)), .unset, .unset, .unset, .unset, .unset, .unset] [(.ref a1)]))
  refine own_go (fun _ k => XS.dup X1.here hx rfl (hb hby at_17) rfl rfl k) ?_
  show own_Fin p.tables e below _ (T1.setTop (mkF m 18 #[.val (.int i1), .val (.int i2), .val (.int i3), .val (.int i4), .val (.int i5), .val (.int ((i2 &&& (127 : Int32)).toUInt32.toUInt16.toUInt32.toInt32)), .val (.int ((i3 &&& (127 : Int32)).toUInt32.toUInt16.toUInt32.toInt32)), .unset, .unset, .unset, .unset, .unset, .unset] [(.ref a1), (.ref a1)]))
  refine own_go (fun _ k => XT.iconstV X1.here hx rfl (0 : Int32) (hb hby at_18) (by decide) k) ?_
  show own_Fin p.tables e below _ (T1.setTop (mkF m 19 #[.val (.int i1), .val (.int i2), .val (.int i3), .val (.int i4), .val (.int i5), .val (.int ((i2 &&& (127 : Int32)).toUInt32.toUInt16.toUInt32.toInt32)), .val (.int ((i3 &&& (127 : Int32)).toUInt32.toUInt16.toUInt32.toInt32)), .unset, .unset, .unset, .unset, .unset, .unset] [(.int (0 : Int32)), (.ref a1), (.ref a1)]))
  refine own_go (fun _ k => XS.iloadN X1.here hx rfl (hb hby at_19) rfl k) ?_
  show own_Fin p.tables e below _ (T1.setTop (mkF m 20 #[.val (.int i1), .val (.int i2), .val (.int i3), .val (.int i4), .val (.int i5), .val (.int ((i2 &&& (127 : Int32)).toUInt32.toUInt16.toUInt32.toInt32)), .val (.int ((i3 &&& (127 : Int32)).toUInt32.toUInt16.toUInt32.toInt32)), .unset, .unset, .unset, .unset, .unset, .unset] [(.int i4), (.int (0 : Int32)), (.ref a1), (.ref a1)]))
  refine own_go (fun _ k => XT.bipushV X1.here hx rfl (127 : Int32) (hb hby at_20) (by decide) k) ?_
  show own_Fin p.tables e below _ (T1.setTop (mkF m 22 #[.val (.int i1), .val (.int i2), .val (.int i3), .val (.int i4), .val (.int i5), .val (.int ((i2 &&& (127 : Int32)).toUInt32.toUInt16.toUInt32.toInt32)), .val (.int ((i3 &&& (127 : Int32)).toUInt32.toUInt16.toUInt32.toInt32)), .unset, .unset, .unset, .unset, .unset, .unset] [(.int (127 : Int32)), (.int i4), (.int (0 : Int32)), (.ref a1), (.ref a1)]))
  refine own_go (fun _ k => XS.iand X1.here hx rfl (hb hby at_22) rfl k) ?_
  show own_Fin p.tables e below _ (T1.setTop (mkF m 23 #[.val (.int i1), .val (.int i2), .val (.int i3), .val (.int i4), .val (.int i5), .val (.int ((i2 &&& (127 : Int32)).toUInt32.toUInt16.toUInt32.toInt32)), .val (.int ((i3 &&& (127 : Int32)).toUInt32.toUInt16.toUInt32.toInt32)), .unset, .unset, .unset, .unset, .unset, .unset] [(.int (i4 &&& (127 : Int32))), (.int (0 : Int32)), (.ref a1), (.ref a1)]))
  refine own_go (fun _ k => XT.i2c X1.here hx rfl (hb hby at_23) rfl k) ?_
  show own_Fin p.tables e below _ (T1.setTop (mkF m 24 #[.val (.int i1), .val (.int i2), .val (.int i3), .val (.int i4), .val (.int i5), .val (.int ((i2 &&& (127 : Int32)).toUInt32.toUInt16.toUInt32.toInt32)), .val (.int ((i3 &&& (127 : Int32)).toUInt32.toUInt16.toUInt32.toInt32)), .unset, .unset, .unset, .unset, .unset, .unset] [(.int ((i4 &&& (127 : Int32)).toUInt32.toUInt16.toUInt32.toInt32)), (.int (0 : Int32)), (.ref a1), (.ref a1)]))
  obtain ⟨c2, Ar2, q2, S2, M2, H2, U2⟩ := id Va1
  obtain ⟨T2, h2, X2, e2, W2, st2⟩ := stC X1 hx hZ e1 Ar2 (j := (0 : Int32)) (inb_of S2 ⟨(by decide), (by decide)⟩) (g := (mkF m 24 #[.val (.int i1), .val (.int i2), .val (.int i3), .val (.int i4), .val (.int i5), .val (.int ((i2 &&& (127 : Int32)).toUInt32.toUInt16.toUInt32.toInt32)), .val (.int ((i3 &&& (127 : Int32)).toUInt32.toUInt16.toUInt32.toInt32)), .unset, .unset, .unset, .unset, .unset, .unset] [(.int ((i4 &&& (127 : Int32)).toUInt32.toUInt16.toUInt32.toInt32)), (.int (0 : Int32)), (.ref a1), (.ref a1)])) rfl rfl (hb hby at_24)
  have K2 := K1.wr W2 (Or.inr q1)
  have N2 := Fr.snoc X2 N0 z1
  have O_2 := O_1.wr W2 z1
  have Va1_2 : Arv Z h2 a1 k1 .char (2 : Int32) [(.int (nar .char ((i4 &&& (127 : Int32)).toUInt32.toUInt16.toUInt32.toInt32))), (.int (0 : Int32))] (.int (0 : Int32)) := Arv.set Ar2 q2 S2 M2 H2 U2 (fits_nar_char _) W2 0 rfl (Nat.le_of_ble_eq_true rfl)
  refine own_go st2 ?_
  show own_Fin p.tables e below _ (T2.setTop (mkF m 25 #[.val (.int i1), .val (.int i2), .val (.int i3), .val (.int i4), .val (.int i5), .val (.int ((i2 &&& (127 : Int32)).toUInt32.toUInt16.toUInt32.toInt32)), .val (.int ((i3 &&& (127 : Int32)).toUInt32.toUInt16.toUInt32.toInt32)), .unset, .unset, .unset, .unset, .unset, .unset] [(.ref a1)]))
  refine own_go (fun _ k => XS.dup X2.here hx rfl (hb hby at_25) rfl rfl k) ?_
  show own_Fin p.tables e below _ (T2.setTop (mkF m 26 #[.val (.int i1), .val (.int i2), .val (.int i3), .val (.int i4), .val (.int i5), .val (.int ((i2 &&& (127 : Int32)).toUInt32.toUInt16.toUInt32.toInt32)), .val (.int ((i3 &&& (127 : Int32)).toUInt32.toUInt16.toUInt32.toInt32)), .unset, .unset, .unset, .unset, .unset, .unset] [(.ref a1), (.ref a1)]))
  refine own_go (fun _ k => XT.iconstV X2.here hx rfl (1 : Int32) (hb hby at_26) (by decide) k) ?_
  show own_Fin p.tables e below _ (T2.setTop (mkF m 27 #[.val (.int i1), .val (.int i2), .val (.int i3), .val (.int i4), .val (.int i5), .val (.int ((i2 &&& (127 : Int32)).toUInt32.toUInt16.toUInt32.toInt32)), .val (.int ((i3 &&& (127 : Int32)).toUInt32.toUInt16.toUInt32.toInt32)), .unset, .unset, .unset, .unset, .unset, .unset] [(.int (1 : Int32)), (.ref a1), (.ref a1)]))
  refine own_go (fun _ k => XS.iload X2.here hx rfl (hb hby at_27) rfl k) ?_
  show own_Fin p.tables e below _ (T2.setTop (mkF m 29 #[.val (.int i1), .val (.int i2), .val (.int i3), .val (.int i4), .val (.int i5), .val (.int ((i2 &&& (127 : Int32)).toUInt32.toUInt16.toUInt32.toInt32)), .val (.int ((i3 &&& (127 : Int32)).toUInt32.toUInt16.toUInt32.toInt32)), .unset, .unset, .unset, .unset, .unset, .unset] [(.int i5), (.int (1 : Int32)), (.ref a1), (.ref a1)]))
  refine own_go (fun _ k => XT.bipushV X2.here hx rfl (127 : Int32) (hb hby at_29) (by decide) k) ?_
  show own_Fin p.tables e below _ (T2.setTop (mkF m 31 #[.val (.int i1), .val (.int i2), .val (.int i3), .val (.int i4), .val (.int i5), .val (.int ((i2 &&& (127 : Int32)).toUInt32.toUInt16.toUInt32.toInt32)), .val (.int ((i3 &&& (127 : Int32)).toUInt32.toUInt16.toUInt32.toInt32)), .unset, .unset, .unset, .unset, .unset, .unset] [(.int (127 : Int32)), (.int i5), (.int (1 : Int32)), (.ref a1), (.ref a1)]))
  refine own_go (fun _ k => XS.iand X2.here hx rfl (hb hby at_31) rfl k) ?_
  show own_Fin p.tables e below _ (T2.setTop (mkF m 32 #[.val (.int i1), .val (.int i2), .val (.int i3), .val (.int i4), .val (.int i5), .val (.int ((i2 &&& (127 : Int32)).toUInt32.toUInt16.toUInt32.toInt32)), .val (.int ((i3 &&& (127 : Int32)).toUInt32.toUInt16.toUInt32.toInt32)), .unset, .unset, .unset, .unset, .unset, .unset] [(.int (i5 &&& (127 : Int32))), (.int (1 : Int32)), (.ref a1), (.ref a1)]))
  refine own_go (fun _ k => XT.i2c X2.here hx rfl (hb hby at_32) rfl k) ?_
  show own_Fin p.tables e below _ (T2.setTop (mkF m 33 #[.val (.int i1), .val (.int i2), .val (.int i3), .val (.int i4), .val (.int i5), .val (.int ((i2 &&& (127 : Int32)).toUInt32.toUInt16.toUInt32.toInt32)), .val (.int ((i3 &&& (127 : Int32)).toUInt32.toUInt16.toUInt32.toInt32)), .unset, .unset, .unset, .unset, .unset, .unset] [(.int ((i5 &&& (127 : Int32)).toUInt32.toUInt16.toUInt32.toInt32)), (.int (1 : Int32)), (.ref a1), (.ref a1)]))
  obtain ⟨c3, Ar3, q3, S3, M3, H3, U3⟩ := id Va1_2
  obtain ⟨T3, h3, X3, e3, W3, st3⟩ := stC X2 hx hZ e2 Ar3 (j := (1 : Int32)) (inb_of S3 ⟨(by decide), (by decide)⟩) (g := (mkF m 33 #[.val (.int i1), .val (.int i2), .val (.int i3), .val (.int i4), .val (.int i5), .val (.int ((i2 &&& (127 : Int32)).toUInt32.toUInt16.toUInt32.toInt32)), .val (.int ((i3 &&& (127 : Int32)).toUInt32.toUInt16.toUInt32.toInt32)), .unset, .unset, .unset, .unset, .unset, .unset] [(.int ((i5 &&& (127 : Int32)).toUInt32.toUInt16.toUInt32.toInt32)), (.int (1 : Int32)), (.ref a1), (.ref a1)])) rfl rfl (hb hby at_33)
  have K3 := K2.wr W3 (Or.inr q1)
  have N3 := Fr.snoc X3 N2 z1
  have O_3 := O_2.wr W3 z1
  have Va1_3 : Arv Z h3 a1 k1 .char (2 : Int32) [(.int (nar .char ((i4 &&& (127 : Int32)).toUInt32.toUInt16.toUInt32.toInt32))), (.int (nar .char ((i5 &&& (127 : Int32)).toUInt32.toUInt16.toUInt32.toInt32)))] (.int (0 : Int32)) := Arv.set Ar3 q3 S3 M3 H3 U3 (fits_nar_char _) W3 1 rfl (Nat.le_of_ble_eq_true rfl)
  refine own_go st3 ?_
  show own_Fin p.tables e below _ (T3.setTop (mkF m 34 #[.val (.int i1), .val (.int i2), .val (.int i3), .val (.int i4), .val (.int i5), .val (.int ((i2 &&& (127 : Int32)).toUInt32.toUInt16.toUInt32.toInt32)), .val (.int ((i3 &&& (127 : Int32)).toUInt32.toUInt16.toUInt32.toInt32)), .unset, .unset, .unset, .unset, .unset, .unset] [(.ref a1)]))
  refine own_go (fun _ k => XS.astore X3.here hx rfl (hb hby at_34) rfl rfl (l' := #[.val (.int i1), .val (.int i2), .val (.int i3), .val (.int i4), .val (.int i5), .val (.int ((i2 &&& (127 : Int32)).toUInt32.toUInt16.toUInt32.toInt32)), .val (.int ((i3 &&& (127 : Int32)).toUInt32.toUInt16.toUInt32.toInt32)), .val (.ref a1), .unset, .unset, .unset, .unset, .unset]) rfl k) ?_
  show own_Fin p.tables e below _ (T3.setTop (mkF m 36 #[.val (.int i1), .val (.int i2), .val (.int i3), .val (.int i4), .val (.int i5), .val (.int ((i2 &&& (127 : Int32)).toUInt32.toUInt16.toUInt32.toInt32)), .val (.int ((i3 &&& (127 : Int32)).toUInt32.toUInt16.toUInt32.toInt32)), .val (.ref a1), .unset, .unset, .unset, .unset, .unset] []))
  obtain ⟨T4, h4, X4, e4, E4, A4, D4, -, st4⟩ := newO X3 hx hZ hown (hw _ (List.mem_of_getElem? (i := 1) rfl)) (hw _ (List.mem_of_getElem? (i := 2) rfl)) (hw _ (List.mem_of_getElem? (i := 3) rfl)) e3 (g := (mkF m 36 #[.val (.int i1), .val (.int i2), .val (.int i3), .val (.int i4), .val (.int i5), .val (.int ((i2 &&& (127 : Int32)).toUInt32.toUInt16.toUInt32.toInt32)), .val (.int ((i3 &&& (127 : Int32)).toUInt32.toUInt16.toUInt32.toInt32)), .val (.ref a1), .unset, .unset, .unset, .unset, .unset] [])) rfl (hb hby at_36) (by decide) (by decide)
  obtain ⟨a4, g4⟩ : ∃ z, z = h3.size := ⟨_, rfl⟩
  rw [← g4] at A4 D4 st4
  have q4 : h0.size ≤ a4 := Nat.le_trans K3.1 (Nat.le_of_eq g4.symm)
  have z4 : n0 ≤ a4 := Nat.le_trans Z0 q4
  have ne_a1_a4 : a1 ≠ a4 := fun q => absurd (q ▸ Va1_3.lt) (by rw [g4]; exact Nat.lt_irrefl _)
  have O_4 := O_3.ext E4
  have Va1_4 := Va1_3.ext E4
  have K4 := K3.ext E4
  have Fa4_coder : Fld Z h4 a4 "java/lang/String" "coder" "B" (.int (0 : Int32)) := D4 (Or.inr (hw _ (List.mem_of_getElem? (i := 27) rfl))) (ty := .byte) (by decide)
  have Fa4_value : Fld Z h4 a4 "java/lang/String" "value" "[B" .null := D4 (Or.inr (hw _ (List.mem_of_getElem? (i := 29) rfl))) (ty := (.array .byte)) (by decide)
  refine own_go st4 ?_
  show own_Fin p.tables e below _ (T4.setTop (mkF m 39 #[.val (.int i1), .val (.int i2), .val (.int i3), .val (.int i4), .val (.int i5), .val (.int ((i2 &&& (127 : Int32)).toUInt32.toUInt16.toUInt32.toInt32)), .val (.int ((i3 &&& (127 : Int32)).toUInt32.toUInt16.toUInt32.toInt32)), .val (.ref a1), .unset, .unset, .unset, .unset, .unset] [(.ref a4)]))
  refine own_go (fun _ k => XS.dup X4.here hx rfl (hb hby at_39) rfl rfl k) ?_
  show own_Fin p.tables e below _ (T4.setTop (mkF m 40 #[.val (.int i1), .val (.int i2), .val (.int i3), .val (.int i4), .val (.int i5), .val (.int ((i2 &&& (127 : Int32)).toUInt32.toUInt16.toUInt32.toInt32)), .val (.int ((i3 &&& (127 : Int32)).toUInt32.toUInt16.toUInt32.toInt32)), .val (.ref a1), .unset, .unset, .unset, .unset, .unset] [(.ref a4), (.ref a4)]))
  refine own_go (fun _ k => XS.aload X4.here hx rfl (hb hby at_40) rfl rfl k) ?_
  show own_Fin p.tables e below _ (T4.setTop (mkF m 42 #[.val (.int i1), .val (.int i2), .val (.int i3), .val (.int i4), .val (.int i5), .val (.int ((i2 &&& (127 : Int32)).toUInt32.toUInt16.toUInt32.toInt32)), .val (.int ((i3 &&& (127 : Int32)).toUInt32.toUInt16.toUInt32.toInt32)), .val (.ref a1), .unset, .unset, .unset, .unset, .unset] [(.ref a1), (.ref a4), (.ref a4)]))
  have lt5 : a1 < h4.size := Va1_4.lt
  have lt6 : a4 < h4.size := A4.lt
  have hp7 : ∀ c ∈ ([(nar .char ((i4 &&& (127 : Int32)).toUInt32.toUInt16.toUInt32.toInt32)), (nar .char ((i5 &&& (127 : Int32)).toUInt32.toUInt16.toUInt32.toInt32))] : List Int32), ¬ c < 0 ∧ ¬ (255 : Int32) < c := fun c hc => by simp only [List.mem_cons, List.not_mem_nil, or_false] at hc; rcases hc with rfl | rfl <;> exact own_c7 _
  obtain ⟨_, T7, L7, X7, ⟨rfl, M7, KK7, -, Gc7, t7, kb7, zt7, qt7, nt7, Gv7, Ga7⟩, st7⟩ := own_callCB X4 hx hZ hown rfl (hw _ (List.mem_of_getElem? (i := 4) rfl)) (hw _ (List.mem_of_getElem? (i := 5) rfl)) (hw _ (List.mem_of_getElem? (i := 6) rfl)) (by decide) (W := 1) (StrChars.Road.backV (W := 1) hZ hws (kI := 4) (hw _ (List.mem_of_getElem? (i := 2) rfl)) (cs := ([(nar .char ((i4 &&& (127 : Int32)).toUInt32.toUInt16.toUInt32.toInt32)), (nar .char ((i5 &&& (127 : Int32)).toUInt32.toUInt16.toUInt32.toInt32))] : List Int32)) (bs := ([(nar .char ((i4 &&& (127 : Int32)).toUInt32.toUInt16.toUInt32.toInt32)), (nar .char ((i5 &&& (127 : Int32)).toUInt32.toUInt16.toUInt32.toInt32))] : List Int32).map (fun c => c.toInt8.toInt32)) (n := 2) z4 (Nat.le_trans Z0 K4.1) A4 Fa4_value Fa4_coder Va1_4 (SC.ext O_4.2) hz rfl rfl (by decide) (by decide) hp7 rfl (by decide) (by decide)) e4 (g := (mkF m 42 #[.val (.int i1), .val (.int i2), .val (.int i3), .val (.int i4), .val (.int i5), .val (.int ((i2 &&& (127 : Int32)).toUInt32.toUInt16.toUInt32.toInt32)), .val (.int ((i3 &&& (127 : Int32)).toUInt32.toUInt16.toUInt32.toInt32)), .val (.ref a1), .unset, .unset, .unset, .unset, .unset] [(.ref a1), (.ref a4), (.ref a4)])) rfl (by rw [hml]; rfl) (argsL := [.ref a1]) (rest := [(.ref a4)]) rfl (lenOf pd17 rfl) rfl (by show 2 * 0 + _ ≤ _; exact Nat.le_of_eq rfl) (hb hby at_42) (by decide) (by decide)
  have N7 := Fr.app N3 M7
  have O_7 := O_4.keep KK7 (allS z4 all0)
  have Va1_7 := Va1_4.keep KK7 (ninS ne_a1_a4 nin0)
  have Ea4_7 := A4.keep KK7
  have K7 := K4.trans KK7 (allS (Or.inr q4) all0)
  have ne_a1_t7 : a1 ≠ t7 := own_lt_ne lt5 qt7
  have ne_a4_t7 : a4 ≠ t7 := own_lt_ne lt6 qt7
  have Gd7 : Arv Z T7.heap t7 kb7 .byte (2 : Int32) [(.int ((nar .char ((i4 &&& (127 : Int32)).toUInt32.toUInt16.toUInt32.toInt32)).toInt8.toInt32)), (.int ((nar .char ((i5 &&& (127 : Int32)).toUInt32.toUInt16.toUInt32.toInt32)).toInt8.toInt32))] (.int (0 : Int32)) := Ga7
  refine own_go st7 ?_
  show own_Fin p.tables e below _ (T7.setTop (mkF m 45 #[.val (.int i1), .val (.int i2), .val (.int i3), .val (.int i4), .val (.int i5), .val (.int ((i2 &&& (127 : Int32)).toUInt32.toUInt16.toUInt32.toInt32)), .val (.int ((i3 &&& (127 : Int32)).toUInt32.toUInt16.toUInt32.toInt32)), .val (.ref a1), .unset, .unset, .unset, .unset, .unset] [(.ref a4)]))
  refine own_go (fun _ k => XS.astore X7.here hx rfl (hb hby at_45) rfl rfl (l' := #[.val (.int i1), .val (.int i2), .val (.int i3), .val (.int i4), .val (.int i5), .val (.int ((i2 &&& (127 : Int32)).toUInt32.toUInt16.toUInt32.toInt32)), .val (.int ((i3 &&& (127 : Int32)).toUInt32.toUInt16.toUInt32.toInt32)), .val (.ref a1), .val (.ref a4), .unset, .unset, .unset, .unset]) rfl k) ?_
  show own_Fin p.tables e below _ (T7.setTop (mkF m 47 #[.val (.int i1), .val (.int i2), .val (.int i3), .val (.int i4), .val (.int i5), .val (.int ((i2 &&& (127 : Int32)).toUInt32.toUInt16.toUInt32.toInt32)), .val (.int ((i3 &&& (127 : Int32)).toUInt32.toUInt16.toUInt32.toInt32)), .val (.ref a1), .val (.ref a4), .unset, .unset, .unset, .unset] []))
  obtain ⟨T8, h8, X8, e8, E8, A8, D8, -, st8⟩ := newO X7 hx hZ hown (hw _ (List.mem_of_getElem? (i := 30) rfl)) (hw _ (List.mem_of_getElem? (i := 31) rfl)) (hw _ (List.mem_of_getElem? (i := 32) rfl)) rfl (g := (mkF m 47 #[.val (.int i1), .val (.int i2), .val (.int i3), .val (.int i4), .val (.int i5), .val (.int ((i2 &&& (127 : Int32)).toUInt32.toUInt16.toUInt32.toInt32)), .val (.int ((i3 &&& (127 : Int32)).toUInt32.toUInt16.toUInt32.toInt32)), .val (.ref a1), .val (.ref a4), .unset, .unset, .unset, .unset] [])) rfl (hb hby at_47) (by decide) (by decide)
  obtain ⟨a8, g8⟩ : ∃ z, z = T7.heap.size := ⟨_, rfl⟩
  rw [← g8] at A8 D8 st8
  have q8 : h0.size ≤ a8 := Nat.le_trans K7.1 (Nat.le_of_eq g8.symm)
  have z8 : n0 ≤ a8 := Nat.le_trans Z0 q8
  have ne_a1_a8 : a1 ≠ a8 := fun q => absurd (q ▸ Va1_7.lt) (by rw [g8]; exact Nat.lt_irrefl _)
  have ne_a4_a8 : a4 ≠ a8 := fun q => absurd (q ▸ Ea4_7.lt) (by rw [g8]; exact Nat.lt_irrefl _)
  have ne_t7_a8 : t7 ≠ a8 := fun q => absurd (q ▸ Gd7.lt) (by rw [g8]; exact Nat.lt_irrefl _)
  have O_8 := O_7.ext E8
  have Va1_8 := Va1_7.ext E8
  have Ea4_8 := Ea4_7.ext E8
  have Fa4_coder_8 := Gc7.ext E8
  have Fa4_value_8 := Gv7.ext E8
  have Vt7_8 := Gd7.ext E8
  have K8 := K7.ext E8
  have Fa8_bytes : Fld Z h8 a8 "com/example/envelope/envelope/JsonOutput" "bytes" "[B" .null := D8 (Or.inl (hw _ (List.mem_of_getElem? (i := 38) rfl))) (ty := (.array .byte)) (by decide)
  have Fa8_length : Fld Z h8 a8 "com/example/envelope/envelope/JsonOutput" "length" "I" (.int (0 : Int32)) := D8 (Or.inl (hw _ (List.mem_of_getElem? (i := 49) rfl))) (ty := .int) (by decide)
  refine own_go st8 ?_
  show own_Fin p.tables e below _ (T8.setTop (mkF m 50 #[.val (.int i1), .val (.int i2), .val (.int i3), .val (.int i4), .val (.int i5), .val (.int ((i2 &&& (127 : Int32)).toUInt32.toUInt16.toUInt32.toInt32)), .val (.int ((i3 &&& (127 : Int32)).toUInt32.toUInt16.toUInt32.toInt32)), .val (.ref a1), .val (.ref a4), .unset, .unset, .unset, .unset] [(.ref a8)]))
  refine own_go (fun _ k => XS.dup X8.here hx rfl (hb hby at_50) rfl rfl k) ?_
  show own_Fin p.tables e below _ (T8.setTop (mkF m 51 #[.val (.int i1), .val (.int i2), .val (.int i3), .val (.int i4), .val (.int i5), .val (.int ((i2 &&& (127 : Int32)).toUInt32.toUInt16.toUInt32.toInt32)), .val (.int ((i3 &&& (127 : Int32)).toUInt32.toUInt16.toUInt32.toInt32)), .val (.ref a1), .val (.ref a4), .unset, .unset, .unset, .unset] [(.ref a8), (.ref a8)]))
  refine own_go (fun _ k => XS.iloadN X8.here hx rfl (hb hby at_51) rfl k) ?_
  show own_Fin p.tables e below _ (T8.setTop (mkF m 52 #[.val (.int i1), .val (.int i2), .val (.int i3), .val (.int i4), .val (.int i5), .val (.int ((i2 &&& (127 : Int32)).toUInt32.toUInt16.toUInt32.toInt32)), .val (.int ((i3 &&& (127 : Int32)).toUInt32.toUInt16.toUInt32.toInt32)), .val (.ref a1), .val (.ref a4), .unset, .unset, .unset, .unset] [(.int i1), (.ref a8), (.ref a8)]))
  refine own_go (fun _ k => XT.bipushV X8.here hx rfl (7 : Int32) (hb hby at_52) (by decide) k) ?_
  show own_Fin p.tables e below _ (T8.setTop (mkF m 54 #[.val (.int i1), .val (.int i2), .val (.int i3), .val (.int i4), .val (.int i5), .val (.int ((i2 &&& (127 : Int32)).toUInt32.toUInt16.toUInt32.toInt32)), .val (.int ((i3 &&& (127 : Int32)).toUInt32.toUInt16.toUInt32.toInt32)), .val (.ref a1), .val (.ref a4), .unset, .unset, .unset, .unset] [(.int (7 : Int32)), (.int i1), (.ref a8), (.ref a8)]))
  refine own_go (fun _ k => XS.iand X8.here hx rfl (hb hby at_54) rfl k) ?_
  show own_Fin p.tables e below _ (T8.setTop (mkF m 55 #[.val (.int i1), .val (.int i2), .val (.int i3), .val (.int i4), .val (.int i5), .val (.int ((i2 &&& (127 : Int32)).toUInt32.toUInt16.toUInt32.toInt32)), .val (.int ((i3 &&& (127 : Int32)).toUInt32.toUInt16.toUInt32.toInt32)), .val (.ref a1), .val (.ref a4), .unset, .unset, .unset, .unset] [(.int (i1 &&& (7 : Int32))), (.ref a8), (.ref a8)]))
  rcases own_cap i1 with q | q | q | q | hz4
  · rw [q]
    show own_Fin p.tables e below _ (T8.setTop (mkF m 55 #[.val (.int i1), .val (.int i2), .val (.int i3), .val (.int i4), .val (.int i5), .val (.int ((i2 &&& (127 : Int32)).toUInt32.toUInt16.toUInt32.toInt32)), .val (.int ((i3 &&& (127 : Int32)).toUInt32.toUInt16.toUInt32.toInt32)), .val (.ref a1), .val (.ref a4), .unset, .unset, .unset, .unset] [(.int (0 : Int32)), (.ref a8), (.ref a8)]))
    obtain ⟨_, T9, L9, X9, ⟨rfl, M9, KK9, b9, kb9, Gb9, Gl9, q9, Ga9⟩, st9⟩ := own_callC X8 hx hZ hown rfl (hw _ (List.mem_of_getElem? (i := 33) rfl)) (hw _ (List.mem_of_getElem? (i := 34) rfl)) (hw _ (List.mem_of_getElem? (i := 32) rfl)) (hw _ (List.mem_of_getElem? (i := 35) rfl)) (by decide) (W := 1) (rmi l Z a0 hw [] a8 (0 : Int32) h8 n0 (Nat.le_trans Z0 K8.1) A8 Fa8_bytes Fa8_length z8 (by decide) (by decide)) (by decide) (by decide) e8 (g := (mkF m 55 #[.val (.int i1), .val (.int i2), .val (.int i3), .val (.int i4), .val (.int i5), .val (.int ((i2 &&& (127 : Int32)).toUInt32.toUInt16.toUInt32.toInt32)), .val (.int ((i3 &&& (127 : Int32)).toUInt32.toUInt16.toUInt32.toInt32)), .val (.ref a1), .val (.ref a4), .unset, .unset, .unset, .unset] [(.int (0 : Int32)), (.ref a8), (.ref a8)])) rfl (by rw [hml]; rfl) (argsL := [(.int (0 : Int32))]) (rest := [(.ref a8)]) rfl (lenOf pd4 rfl) rfl (by show 2 * 0 + _ ≤ _; exact Nat.le_of_eq rfl) (hb hby at_55) (by decide) (by decide)
    have N9 := Fr.app N7 M9
    have ne_a1_b9 : a1 ≠ b9 := own_lt_ne Va1_8.lt q9
    have ne_a4_b9 : a4 ≠ b9 := own_lt_ne Ea4_8.lt q9
    have ne_t7_b9 : t7 ≠ b9 := own_lt_ne Vt7_8.lt q9
    have ne_a8_b9 : a8 ≠ b9 := own_lt_ne A8.lt q9
    have O_9 := O_8.keep KK9 (allS z8 all0)
    have Va1_9 := Va1_8.keep KK9 (ninS ne_a1_a8 nin0)
    have Ea4_9 := Ea4_8.keep KK9
    have Fa4_coder_9 := Fa4_coder_8.keep KK9 (ninS ne_a4_a8 nin0)
    have Fa4_value_9 := Fa4_value_8.keep KK9 (ninS ne_a4_a8 nin0)
    have Vt7_9 := Vt7_8.keep KK9 (ninS ne_t7_a8 nin0)
    have Ea8_9 := A8.keep KK9
    have K9 := K8.trans KK9 (allS (Or.inr q8) all0)
    refine own_go st9 ?_
    show own_Fin p.tables e below _ (T9.setTop (mkF m 58 #[.val (.int i1), .val (.int i2), .val (.int i3), .val (.int i4), .val (.int i5), .val (.int ((i2 &&& (127 : Int32)).toUInt32.toUInt16.toUInt32.toInt32)), .val (.int ((i3 &&& (127 : Int32)).toUInt32.toUInt16.toUInt32.toInt32)), .val (.ref a1), .val (.ref a4), .unset, .unset, .unset, .unset] [(.ref a8)]))
    refine own_go (fun _ k => XS.astore X9.here hx rfl (hb hby at_58) rfl rfl (l' := #[.val (.int i1), .val (.int i2), .val (.int i3), .val (.int i4), .val (.int i5), .val (.int ((i2 &&& (127 : Int32)).toUInt32.toUInt16.toUInt32.toInt32)), .val (.int ((i3 &&& (127 : Int32)).toUInt32.toUInt16.toUInt32.toInt32)), .val (.ref a1), .val (.ref a4), .val (.ref a8), .unset, .unset, .unset]) rfl k) ?_
    show own_Fin p.tables e below _ (T9.setTop (mkF m 60 #[.val (.int i1), .val (.int i2), .val (.int i3), .val (.int i4), .val (.int i5), .val (.int ((i2 &&& (127 : Int32)).toUInt32.toUInt16.toUInt32.toInt32)), .val (.int ((i3 &&& (127 : Int32)).toUInt32.toUInt16.toUInt32.toInt32)), .val (.ref a1), .val (.ref a4), .val (.ref a8), .unset, .unset, .unset] []))
    refine own_go (fun _ k => XS.aload X9.here hx rfl (hb hby at_60) rfl rfl k) ?_
    show own_Fin p.tables e below _ (T9.setTop (mkF m 62 #[.val (.int i1), .val (.int i2), .val (.int i3), .val (.int i4), .val (.int i5), .val (.int ((i2 &&& (127 : Int32)).toUInt32.toUInt16.toUInt32.toInt32)), .val (.int ((i3 &&& (127 : Int32)).toUInt32.toUInt16.toUInt32.toInt32)), .val (.ref a1), .val (.ref a4), .val (.ref a8), .unset, .unset, .unset] [(.ref a8)]))
    refine own_go (fun _ k => XS.iload X9.here hx rfl (hb hby at_62) rfl k) ?_
    show own_Fin p.tables e below _ (T9.setTop (mkF m 64 #[.val (.int i1), .val (.int i2), .val (.int i3), .val (.int i4), .val (.int i5), .val (.int ((i2 &&& (127 : Int32)).toUInt32.toUInt16.toUInt32.toInt32)), .val (.int ((i3 &&& (127 : Int32)).toUInt32.toUInt16.toUInt32.toInt32)), .val (.ref a1), .val (.ref a4), .val (.ref a8), .unset, .unset, .unset] [(.int ((i2 &&& (127 : Int32)).toUInt32.toUInt16.toUInt32.toInt32)), (.ref a8)]))
    obtain ⟨_, T10, L10, X10, ⟨rfl, M10, KK10, b10, kb10, Gb10, Gl10, q10, Ga10⟩, st10⟩ := own_callV X9 hx hZ hown (hw _ (List.mem_of_getElem? (i := 39) rfl)) (hw _ (List.mem_of_getElem? (i := 40) rfl)) (hw _ (List.mem_of_getElem? (i := 42) rfl)) (hw _ (List.mem_of_getElem? (i := 41) rfl)) (hw _ (List.mem_of_getElem? (i := 32) rfl)) (hw _ (List.mem_of_getElem? (i := 43) rfl)) (by decide) (W := 0) (rmag0 l Z a0 hw [] a8 ((i2 &&& (127 : Int32)).toUInt32.toUInt16.toUInt32.toInt32) T9.heap n0 (Nat.le_trans Z0 K9.1) b9 kb9   Ea8_9 Gb9 Gl9 Ga9 z8 (Nat.le_trans Z0 (Nat.le_trans K8.1 q9))) (by decide) (by decide) rfl Ea8_9 (g := (mkF m 64 #[.val (.int i1), .val (.int i2), .val (.int i3), .val (.int i4), .val (.int i5), .val (.int ((i2 &&& (127 : Int32)).toUInt32.toUInt16.toUInt32.toInt32)), .val (.int ((i3 &&& (127 : Int32)).toUInt32.toUInt16.toUInt32.toInt32)), .val (.ref a1), .val (.ref a4), .val (.ref a8), .unset, .unset, .unset] [(.int ((i2 &&& (127 : Int32)).toUInt32.toUInt16.toUInt32.toInt32)), (.ref a8)])) rfl (by rw [hml]; rfl) (argsL := [(.int ((i2 &&& (127 : Int32)).toUInt32.toUInt16.toUInt32.toInt32))]) (rest := []) rfl (lenOf pd5 rfl) rfl (by show 2 * 0 + _ ≤ _; exact Nat.le_of_eq rfl) (hb hby at_64) (by decide) (by decide)
    have N10 := Fr.app N9 M10
    have ne_a1_b10 : a1 ≠ b10 := own_lt_ne Va1_9.lt q10
    have ne_a4_b10 : a4 ≠ b10 := own_lt_ne Ea4_9.lt q10
    have ne_t7_b10 : t7 ≠ b10 := own_lt_ne Vt7_9.lt q10
    have ne_a8_b10 : a8 ≠ b10 := own_lt_ne Ea8_9.lt q10
    have ne_b9_b10 : b9 ≠ b10 := own_lt_ne Ga9.lt q10
    have O_10 := O_9.keep KK10 (allS z8 all0)
    have Va1_10 := Va1_9.keep KK10 (ninS ne_a1_a8 nin0)
    have Ea4_10 := Ea4_9.keep KK10
    have Fa4_coder_10 := Fa4_coder_9.keep KK10 (ninS ne_a4_a8 nin0)
    have Fa4_value_10 := Fa4_value_9.keep KK10 (ninS ne_a4_a8 nin0)
    have Vt7_10 := Vt7_9.keep KK10 (ninS ne_t7_a8 nin0)
    have Ea8_10 := Ea8_9.keep KK10
    have Vb9_10 := Ga9.keep KK10 (ninS (Ne.symm ne_a8_b9) nin0)
    have K10 := K9.trans KK10 (allS (Or.inr q8) all0)
    refine own_go st10 ?_
    show own_Fin p.tables e below _ (T10.setTop (mkF m 67 #[.val (.int i1), .val (.int i2), .val (.int i3), .val (.int i4), .val (.int i5), .val (.int ((i2 &&& (127 : Int32)).toUInt32.toUInt16.toUInt32.toInt32)), .val (.int ((i3 &&& (127 : Int32)).toUInt32.toUInt16.toUInt32.toInt32)), .val (.ref a1), .val (.ref a4), .val (.ref a8), .unset, .unset, .unset] []))
    refine own_go (fun _ k => XS.aload X10.here hx rfl (hb hby at_67) rfl rfl k) ?_
    show own_Fin p.tables e below _ (T10.setTop (mkF m 69 #[.val (.int i1), .val (.int i2), .val (.int i3), .val (.int i4), .val (.int i5), .val (.int ((i2 &&& (127 : Int32)).toUInt32.toUInt16.toUInt32.toInt32)), .val (.int ((i3 &&& (127 : Int32)).toUInt32.toUInt16.toUInt32.toInt32)), .val (.ref a1), .val (.ref a4), .val (.ref a8), .unset, .unset, .unset] [(.ref a8)]))
    obtain ⟨_, T11, L11, X11, ⟨rfl, M11, e11⟩, st11⟩ := own_callV X10 hx hZ hown (hw _ (List.mem_of_getElem? (i := 71) rfl)) (hw _ (List.mem_of_getElem? (i := 72) rfl)) (hw _ (List.mem_of_getElem? (i := 74) rfl)) (hw _ (List.mem_of_getElem? (i := 73) rfl)) (hw _ (List.mem_of_getElem? (i := 32) rfl)) (hw _ (List.mem_of_getElem? (i := 75) rfl)) (by decide) (W := 0) (rml1 l Z a0 hw [] a8 T10.heap n0 (Nat.le_trans Z0 K10.1) b10 kb10 (nar .byte (((i2 &&& (127 : Int32)).toUInt32.toUInt16.toUInt32.toInt32).toInt8.toInt32)) (1 : Int32) Ea8_10 Gb10 Gl10 Ga10 z8 (Nat.le_trans Z0 (Nat.le_trans K9.1 q10)) (by decide)) (by decide) (by decide) rfl Ea8_10 (g := (mkF m 69 #[.val (.int i1), .val (.int i2), .val (.int i3), .val (.int i4), .val (.int i5), .val (.int ((i2 &&& (127 : Int32)).toUInt32.toUInt16.toUInt32.toInt32)), .val (.int ((i3 &&& (127 : Int32)).toUInt32.toUInt16.toUInt32.toInt32)), .val (.ref a1), .val (.ref a4), .val (.ref a8), .unset, .unset, .unset] [(.ref a8)])) rfl (by rw [hml]; rfl) (argsL := []) (rest := []) rfl (lenOf pd6 rfl) rfl (by show 2 * 0 + _ ≤ _; exact Nat.le_of_eq rfl) (hb hby at_69) (by decide) (by decide)
    have N11 := Fr.app N10 M11
    refine own_go st11 ?_
    show own_Fin p.tables e below _ (T11.setTop (mkF m 72 #[.val (.int i1), .val (.int i2), .val (.int i3), .val (.int i4), .val (.int i5), .val (.int ((i2 &&& (127 : Int32)).toUInt32.toUInt16.toUInt32.toInt32)), .val (.int ((i3 &&& (127 : Int32)).toUInt32.toUInt16.toUInt32.toInt32)), .val (.ref a1), .val (.ref a4), .val (.ref a8), .unset, .unset, .unset] [(.int (nar .byte (nar .byte (((i2 &&& (127 : Int32)).toUInt32.toUInt16.toUInt32.toInt32).toInt8.toInt32))))]))
    refine own_go (fun _ k => XS.iload X11.here hx rfl (hb hby at_72) rfl k) ?_
    show own_Fin p.tables e below _ (T11.setTop (mkF m 74 #[.val (.int i1), .val (.int i2), .val (.int i3), .val (.int i4), .val (.int i5), .val (.int ((i2 &&& (127 : Int32)).toUInt32.toUInt16.toUInt32.toInt32)), .val (.int ((i3 &&& (127 : Int32)).toUInt32.toUInt16.toUInt32.toInt32)), .val (.ref a1), .val (.ref a4), .val (.ref a8), .unset, .unset, .unset] [(.int ((i2 &&& (127 : Int32)).toUInt32.toUInt16.toUInt32.toInt32)), (.int (nar .byte (nar .byte (((i2 &&& (127 : Int32)).toUInt32.toUInt16.toUInt32.toInt32).toInt8.toInt32))))]))
    refine own_go (fun _ k => XT.i2b X11.here hx rfl (hb hby at_74) rfl k) ?_
    show own_Fin p.tables e below _ (T11.setTop (mkF m 75 #[.val (.int i1), .val (.int i2), .val (.int i3), .val (.int i4), .val (.int i5), .val (.int ((i2 &&& (127 : Int32)).toUInt32.toUInt16.toUInt32.toInt32)), .val (.int ((i3 &&& (127 : Int32)).toUInt32.toUInt16.toUInt32.toInt32)), .val (.ref a1), .val (.ref a4), .val (.ref a8), .unset, .unset, .unset] [(.int (((i2 &&& (127 : Int32)).toUInt32.toUInt16.toUInt32.toInt32).toInt8.toInt32)), (.int (nar .byte (nar .byte (((i2 &&& (127 : Int32)).toUInt32.toUInt16.toUInt32.toInt32).toInt8.toInt32))))]))
    refine own_go (fun _ k => XS.icmpNo X11.here hx rfl (hb hby at_75) rfl (XT.ii_ne_f (by simp only [own_narb])) k) ?_
    show own_Fin p.tables e below _ (T11.setTop (mkF m 78 #[.val (.int i1), .val (.int i2), .val (.int i3), .val (.int i4), .val (.int i5), .val (.int ((i2 &&& (127 : Int32)).toUInt32.toUInt16.toUInt32.toInt32)), .val (.int ((i3 &&& (127 : Int32)).toUInt32.toUInt16.toUInt32.toInt32)), .val (.ref a1), .val (.ref a4), .val (.ref a8), .unset, .unset, .unset] []))
    refine own_go (fun _ k => XT.iconstV X11.here hx rfl (1 : Int32) (hb hby at_78) (by decide) k) ?_
    show own_Fin p.tables e below _ (T11.setTop (mkF m 79 #[.val (.int i1), .val (.int i2), .val (.int i3), .val (.int i4), .val (.int i5), .val (.int ((i2 &&& (127 : Int32)).toUInt32.toUInt16.toUInt32.toInt32)), .val (.int ((i3 &&& (127 : Int32)).toUInt32.toUInt16.toUInt32.toInt32)), .val (.ref a1), .val (.ref a4), .val (.ref a8), .unset, .unset, .unset] [(.int (1 : Int32))]))
    refine own_go (fun _ k => XS.goto X11.here hx rfl (pc0 := 79) (pc' := 83) rfl (hb hby at_79) (by decide) (by decide) k) ?_
    show own_Fin p.tables e below _ (T11.setTop (mkF m 83 #[.val (.int i1), .val (.int i2), .val (.int i3), .val (.int i4), .val (.int i5), .val (.int ((i2 &&& (127 : Int32)).toUInt32.toUInt16.toUInt32.toInt32)), .val (.int ((i3 &&& (127 : Int32)).toUInt32.toUInt16.toUInt32.toInt32)), .val (.ref a1), .val (.ref a4), .val (.ref a8), .unset, .unset, .unset] [(.int (1 : Int32))]))
    refine own_go (fun _ k => XS.istore X11.here hx rfl (hb hby at_83) rfl (l' := #[.val (.int i1), .val (.int i2), .val (.int i3), .val (.int i4), .val (.int i5), .val (.int ((i2 &&& (127 : Int32)).toUInt32.toUInt16.toUInt32.toInt32)), .val (.int ((i3 &&& (127 : Int32)).toUInt32.toUInt16.toUInt32.toInt32)), .val (.ref a1), .val (.ref a4), .val (.ref a8), .val (.int (1 : Int32)), .unset, .unset]) rfl k) ?_
    show own_Fin p.tables e below _ (T11.setTop (mkF m 85 #[.val (.int i1), .val (.int i2), .val (.int i3), .val (.int i4), .val (.int i5), .val (.int ((i2 &&& (127 : Int32)).toUInt32.toUInt16.toUInt32.toInt32)), .val (.int ((i3 &&& (127 : Int32)).toUInt32.toUInt16.toUInt32.toInt32)), .val (.ref a1), .val (.ref a4), .val (.ref a8), .val (.int (1 : Int32)), .unset, .unset] []))
    refine own_go (fun _ k => XS.aload X11.here hx rfl (hb hby at_85) rfl rfl k) ?_
    show own_Fin p.tables e below _ (T11.setTop (mkF m 87 #[.val (.int i1), .val (.int i2), .val (.int i3), .val (.int i4), .val (.int i5), .val (.int ((i2 &&& (127 : Int32)).toUInt32.toUInt16.toUInt32.toInt32)), .val (.int ((i3 &&& (127 : Int32)).toUInt32.toUInt16.toUInt32.toInt32)), .val (.ref a1), .val (.ref a4), .val (.ref a8), .val (.int (1 : Int32)), .unset, .unset] [(.ref a8)]))
    refine own_go (fun _ k => XS.iload X11.here hx rfl (hb hby at_87) rfl k) ?_
    show own_Fin p.tables e below _ (T11.setTop (mkF m 89 #[.val (.int i1), .val (.int i2), .val (.int i3), .val (.int i4), .val (.int i5), .val (.int ((i2 &&& (127 : Int32)).toUInt32.toUInt16.toUInt32.toInt32)), .val (.int ((i3 &&& (127 : Int32)).toUInt32.toUInt16.toUInt32.toInt32)), .val (.ref a1), .val (.ref a4), .val (.ref a8), .val (.int (1 : Int32)), .unset, .unset] [(.int ((i3 &&& (127 : Int32)).toUInt32.toUInt16.toUInt32.toInt32)), (.ref a8)]))
    obtain ⟨_, T12, L12, X12, ⟨rfl, M12, KK12, b12, kb12, Gb12, Gl12, q12, Ga12⟩, st12⟩ := own_callV X11 hx hZ hown (hw _ (List.mem_of_getElem? (i := 39) rfl)) (hw _ (List.mem_of_getElem? (i := 40) rfl)) (hw _ (List.mem_of_getElem? (i := 42) rfl)) (hw _ (List.mem_of_getElem? (i := 41) rfl)) (hw _ (List.mem_of_getElem? (i := 32) rfl)) (hw _ (List.mem_of_getElem? (i := 43) rfl)) (by decide) (W := 0) (rmag1 l Z a0 hw [] a8 ((i3 &&& (127 : Int32)).toUInt32.toUInt16.toUInt32.toInt32) T10.heap n0 (Nat.le_trans Z0 K10.1) b10 kb10 (nar .byte (((i2 &&& (127 : Int32)).toUInt32.toUInt16.toUInt32.toInt32).toInt8.toInt32))  Ea8_10 Gb10 Gl10 Ga10 z8 (Nat.le_trans Z0 (Nat.le_trans K9.1 q10))) (by decide) (by decide) e11 Ea8_10 (g := (mkF m 89 #[.val (.int i1), .val (.int i2), .val (.int i3), .val (.int i4), .val (.int i5), .val (.int ((i2 &&& (127 : Int32)).toUInt32.toUInt16.toUInt32.toInt32)), .val (.int ((i3 &&& (127 : Int32)).toUInt32.toUInt16.toUInt32.toInt32)), .val (.ref a1), .val (.ref a4), .val (.ref a8), .val (.int (1 : Int32)), .unset, .unset] [(.int ((i3 &&& (127 : Int32)).toUInt32.toUInt16.toUInt32.toInt32)), (.ref a8)])) rfl (by rw [hml]; rfl) (argsL := [(.int ((i3 &&& (127 : Int32)).toUInt32.toUInt16.toUInt32.toInt32))]) (rest := []) rfl (lenOf pd5 rfl) rfl (by show 2 * 0 + _ ≤ _; exact Nat.le_of_eq rfl) (hb hby at_89) (by decide) (by decide)
    have N12 := Fr.app N11 M12
    have ne_a1_b12 : a1 ≠ b12 := own_lt_ne Va1_10.lt q12
    have ne_a4_b12 : a4 ≠ b12 := own_lt_ne Ea4_10.lt q12
    have ne_t7_b12 : t7 ≠ b12 := own_lt_ne Vt7_10.lt q12
    have ne_a8_b12 : a8 ≠ b12 := own_lt_ne Ea8_10.lt q12
    have ne_b9_b12 : b9 ≠ b12 := own_lt_ne Vb9_10.lt q12
    have ne_b10_b12 : b10 ≠ b12 := own_lt_ne Ga10.lt q12
    have O_12 := O_10.keep KK12 (allS z8 all0)
    have Va1_12 := Va1_10.keep KK12 (ninS ne_a1_a8 nin0)
    have Ea4_12 := Ea4_10.keep KK12
    have Fa4_coder_12 := Fa4_coder_10.keep KK12 (ninS ne_a4_a8 nin0)
    have Fa4_value_12 := Fa4_value_10.keep KK12 (ninS ne_a4_a8 nin0)
    have Vt7_12 := Vt7_10.keep KK12 (ninS ne_t7_a8 nin0)
    have Ea8_12 := Ea8_10.keep KK12
    have Vb9_12 := Vb9_10.keep KK12 (ninS (Ne.symm ne_a8_b9) nin0)
    have Vb10_12 := Ga10.keep KK12 (ninS (Ne.symm ne_a8_b10) nin0)
    have K12 := K10.trans KK12 (allS (Or.inr q8) all0)
    refine own_go st12 ?_
    show own_Fin p.tables e below _ (T12.setTop (mkF m 92 #[.val (.int i1), .val (.int i2), .val (.int i3), .val (.int i4), .val (.int i5), .val (.int ((i2 &&& (127 : Int32)).toUInt32.toUInt16.toUInt32.toInt32)), .val (.int ((i3 &&& (127 : Int32)).toUInt32.toUInt16.toUInt32.toInt32)), .val (.ref a1), .val (.ref a4), .val (.ref a8), .val (.int (1 : Int32)), .unset, .unset] []))
    refine own_go (fun _ k => XS.aload X12.here hx rfl (hb hby at_92) rfl rfl k) ?_
    show own_Fin p.tables e below _ (T12.setTop (mkF m 94 #[.val (.int i1), .val (.int i2), .val (.int i3), .val (.int i4), .val (.int i5), .val (.int ((i2 &&& (127 : Int32)).toUInt32.toUInt16.toUInt32.toInt32)), .val (.int ((i3 &&& (127 : Int32)).toUInt32.toUInt16.toUInt32.toInt32)), .val (.ref a1), .val (.ref a4), .val (.ref a8), .val (.int (1 : Int32)), .unset, .unset] [(.ref a8)]))
    obtain ⟨_, T13, L13, X13, ⟨rfl, M13, e13⟩, st13⟩ := own_callV X12 hx hZ hown (hw _ (List.mem_of_getElem? (i := 71) rfl)) (hw _ (List.mem_of_getElem? (i := 72) rfl)) (hw _ (List.mem_of_getElem? (i := 74) rfl)) (hw _ (List.mem_of_getElem? (i := 73) rfl)) (hw _ (List.mem_of_getElem? (i := 32) rfl)) (hw _ (List.mem_of_getElem? (i := 75) rfl)) (by decide) (W := 0) (rml2 l Z a0 hw [] a8 T12.heap n0 (Nat.le_trans Z0 K12.1) b12 kb12 (nar .byte (((i2 &&& (127 : Int32)).toUInt32.toUInt16.toUInt32.toInt32).toInt8.toInt32)) (nar .byte (((i3 &&& (127 : Int32)).toUInt32.toUInt16.toUInt32.toInt32).toInt8.toInt32)) (2 : Int32) Ea8_12 Gb12 Gl12 Ga12 z8 (Nat.le_trans Z0 (Nat.le_trans K10.1 q12)) (by decide)) (by decide) (by decide) rfl Ea8_12 (g := (mkF m 94 #[.val (.int i1), .val (.int i2), .val (.int i3), .val (.int i4), .val (.int i5), .val (.int ((i2 &&& (127 : Int32)).toUInt32.toUInt16.toUInt32.toInt32)), .val (.int ((i3 &&& (127 : Int32)).toUInt32.toUInt16.toUInt32.toInt32)), .val (.ref a1), .val (.ref a4), .val (.ref a8), .val (.int (1 : Int32)), .unset, .unset] [(.ref a8)])) rfl (by rw [hml]; rfl) (argsL := []) (rest := []) rfl (lenOf pd6 rfl) rfl (by show 2 * 0 + _ ≤ _; exact Nat.le_of_eq rfl) (hb hby at_94) (by decide) (by decide)
    have N13 := Fr.app N12 M13
    refine own_go st13 ?_
    show own_Fin p.tables e below _ (T13.setTop (mkF m 97 #[.val (.int i1), .val (.int i2), .val (.int i3), .val (.int i4), .val (.int i5), .val (.int ((i2 &&& (127 : Int32)).toUInt32.toUInt16.toUInt32.toInt32)), .val (.int ((i3 &&& (127 : Int32)).toUInt32.toUInt16.toUInt32.toInt32)), .val (.ref a1), .val (.ref a4), .val (.ref a8), .val (.int (1 : Int32)), .unset, .unset] [(.int (nar .byte (nar .byte (((i3 &&& (127 : Int32)).toUInt32.toUInt16.toUInt32.toInt32).toInt8.toInt32))))]))
    refine own_go (fun _ k => XS.iload X13.here hx rfl (hb hby at_97) rfl k) ?_
    show own_Fin p.tables e below _ (T13.setTop (mkF m 99 #[.val (.int i1), .val (.int i2), .val (.int i3), .val (.int i4), .val (.int i5), .val (.int ((i2 &&& (127 : Int32)).toUInt32.toUInt16.toUInt32.toInt32)), .val (.int ((i3 &&& (127 : Int32)).toUInt32.toUInt16.toUInt32.toInt32)), .val (.ref a1), .val (.ref a4), .val (.ref a8), .val (.int (1 : Int32)), .unset, .unset] [(.int ((i3 &&& (127 : Int32)).toUInt32.toUInt16.toUInt32.toInt32)), (.int (nar .byte (nar .byte (((i3 &&& (127 : Int32)).toUInt32.toUInt16.toUInt32.toInt32).toInt8.toInt32))))]))
    refine own_go (fun _ k => XT.i2b X13.here hx rfl (hb hby at_99) rfl k) ?_
    show own_Fin p.tables e below _ (T13.setTop (mkF m 100 #[.val (.int i1), .val (.int i2), .val (.int i3), .val (.int i4), .val (.int i5), .val (.int ((i2 &&& (127 : Int32)).toUInt32.toUInt16.toUInt32.toInt32)), .val (.int ((i3 &&& (127 : Int32)).toUInt32.toUInt16.toUInt32.toInt32)), .val (.ref a1), .val (.ref a4), .val (.ref a8), .val (.int (1 : Int32)), .unset, .unset] [(.int (((i3 &&& (127 : Int32)).toUInt32.toUInt16.toUInt32.toInt32).toInt8.toInt32)), (.int (nar .byte (nar .byte (((i3 &&& (127 : Int32)).toUInt32.toUInt16.toUInt32.toInt32).toInt8.toInt32))))]))
    refine own_go (fun _ k => XS.icmpNo X13.here hx rfl (hb hby at_100) rfl (XT.ii_ne_f (by simp only [own_narb])) k) ?_
    show own_Fin p.tables e below _ (T13.setTop (mkF m 103 #[.val (.int i1), .val (.int i2), .val (.int i3), .val (.int i4), .val (.int i5), .val (.int ((i2 &&& (127 : Int32)).toUInt32.toUInt16.toUInt32.toInt32)), .val (.int ((i3 &&& (127 : Int32)).toUInt32.toUInt16.toUInt32.toInt32)), .val (.ref a1), .val (.ref a4), .val (.ref a8), .val (.int (1 : Int32)), .unset, .unset] []))
    refine own_go (fun _ k => XT.iconstV X13.here hx rfl (1 : Int32) (hb hby at_103) (by decide) k) ?_
    show own_Fin p.tables e below _ (T13.setTop (mkF m 104 #[.val (.int i1), .val (.int i2), .val (.int i3), .val (.int i4), .val (.int i5), .val (.int ((i2 &&& (127 : Int32)).toUInt32.toUInt16.toUInt32.toInt32)), .val (.int ((i3 &&& (127 : Int32)).toUInt32.toUInt16.toUInt32.toInt32)), .val (.ref a1), .val (.ref a4), .val (.ref a8), .val (.int (1 : Int32)), .unset, .unset] [(.int (1 : Int32))]))
    refine own_go (fun _ k => XS.goto X13.here hx rfl (pc0 := 104) (pc' := 108) rfl (hb hby at_104) (by decide) (by decide) k) ?_
    show own_Fin p.tables e below _ (T13.setTop (mkF m 108 #[.val (.int i1), .val (.int i2), .val (.int i3), .val (.int i4), .val (.int i5), .val (.int ((i2 &&& (127 : Int32)).toUInt32.toUInt16.toUInt32.toInt32)), .val (.int ((i3 &&& (127 : Int32)).toUInt32.toUInt16.toUInt32.toInt32)), .val (.ref a1), .val (.ref a4), .val (.ref a8), .val (.int (1 : Int32)), .unset, .unset] [(.int (1 : Int32))]))
    refine own_go (fun _ k => XS.istore X13.here hx rfl (hb hby at_108) rfl (l' := #[.val (.int i1), .val (.int i2), .val (.int i3), .val (.int i4), .val (.int i5), .val (.int ((i2 &&& (127 : Int32)).toUInt32.toUInt16.toUInt32.toInt32)), .val (.int ((i3 &&& (127 : Int32)).toUInt32.toUInt16.toUInt32.toInt32)), .val (.ref a1), .val (.ref a4), .val (.ref a8), .val (.int (1 : Int32)), .val (.int (1 : Int32)), .unset]) rfl k) ?_
    show own_Fin p.tables e below _ (T13.setTop (mkF m 110 #[.val (.int i1), .val (.int i2), .val (.int i3), .val (.int i4), .val (.int i5), .val (.int ((i2 &&& (127 : Int32)).toUInt32.toUInt16.toUInt32.toInt32)), .val (.int ((i3 &&& (127 : Int32)).toUInt32.toUInt16.toUInt32.toInt32)), .val (.ref a1), .val (.ref a4), .val (.ref a8), .val (.int (1 : Int32)), .val (.int (1 : Int32)), .unset] []))
    refine own_go (fun _ k => XS.aload X13.here hx rfl (hb hby at_110) rfl rfl k) ?_
    show own_Fin p.tables e below _ (T13.setTop (mkF m 112 #[.val (.int i1), .val (.int i2), .val (.int i3), .val (.int i4), .val (.int i5), .val (.int ((i2 &&& (127 : Int32)).toUInt32.toUInt16.toUInt32.toInt32)), .val (.int ((i3 &&& (127 : Int32)).toUInt32.toUInt16.toUInt32.toInt32)), .val (.ref a1), .val (.ref a4), .val (.ref a8), .val (.int (1 : Int32)), .val (.int (1 : Int32)), .unset] [(.ref a8)]))
    refine own_go (fun _ k => XS.aload X13.here hx rfl (hb hby at_112) rfl rfl k) ?_
    show own_Fin p.tables e below _ (T13.setTop (mkF m 114 #[.val (.int i1), .val (.int i2), .val (.int i3), .val (.int i4), .val (.int i5), .val (.int ((i2 &&& (127 : Int32)).toUInt32.toUInt16.toUInt32.toInt32)), .val (.int ((i3 &&& (127 : Int32)).toUInt32.toUInt16.toUInt32.toInt32)), .val (.ref a1), .val (.ref a4), .val (.ref a8), .val (.int (1 : Int32)), .val (.int (1 : Int32)), .unset] [(.ref a4), (.ref a8)]))
    obtain ⟨_, T14, L14, X14, ⟨rfl, M14, KK14, b14, kb14, Gb14, Gl14, q14, Ga14⟩, st14⟩ := own_callV X13 hx hZ hown (hw _ (List.mem_of_getElem? (i := 76) rfl)) (hw _ (List.mem_of_getElem? (i := 77) rfl)) (hw _ (List.mem_of_getElem? (i := 79) rfl)) (hw _ (List.mem_of_getElem? (i := 78) rfl)) (hw _ (List.mem_of_getElem? (i := 32) rfl)) (hw _ (List.mem_of_getElem? (i := 80) rfl)) (by decide) (W := 0) (rmx2 l Z a0 hw [] a8 a4 T12.heap n0 (Nat.le_trans Z0 K12.1) b12 kb12 (nar .byte (((i2 &&& (127 : Int32)).toUInt32.toUInt16.toUInt32.toInt32).toInt8.toInt32)) (nar .byte (((i3 &&& (127 : Int32)).toUInt32.toUInt16.toUInt32.toInt32).toInt8.toInt32))  Ea8_12 Gb12 Gl12 Ga12 z8 (Nat.le_trans Z0 (Nat.le_trans K10.1 q12))  t7 kb7 ((nar .char ((i4 &&& (127 : Int32)).toUInt32.toUInt16.toUInt32.toInt32)).toInt8.toInt32) ((nar .char ((i5 &&& (127 : Int32)).toUInt32.toUInt16.toUInt32.toInt32)).toInt8.toInt32) Ea4_12 Fa4_value_12 Fa4_coder_12 Vt7_12 ne_t7_b12 ic SC hz O_12 fm SF rf) (by decide) (by decide) e13 Ea8_12 (g := (mkF m 114 #[.val (.int i1), .val (.int i2), .val (.int i3), .val (.int i4), .val (.int i5), .val (.int ((i2 &&& (127 : Int32)).toUInt32.toUInt16.toUInt32.toInt32)), .val (.int ((i3 &&& (127 : Int32)).toUInt32.toUInt16.toUInt32.toInt32)), .val (.ref a1), .val (.ref a4), .val (.ref a8), .val (.int (1 : Int32)), .val (.int (1 : Int32)), .unset] [(.ref a4), (.ref a8)])) rfl (by rw [hml]; rfl) (argsL := [(.ref a4)]) (rest := []) rfl (lenOf pd16 rfl) rfl (by show 2 * 0 + _ ≤ _; exact Nat.le_of_eq rfl) (hb hby at_114) (by decide) (by decide)
    have N14 := Fr.app N13 M14
    have ne_a1_b14 : a1 ≠ b14 := own_lt_ne Va1_12.lt q14
    have ne_a4_b14 : a4 ≠ b14 := own_lt_ne Ea4_12.lt q14
    have ne_t7_b14 : t7 ≠ b14 := own_lt_ne Vt7_12.lt q14
    have ne_a8_b14 : a8 ≠ b14 := own_lt_ne Ea8_12.lt q14
    have ne_b9_b14 : b9 ≠ b14 := own_lt_ne Vb9_12.lt q14
    have ne_b10_b14 : b10 ≠ b14 := own_lt_ne Vb10_12.lt q14
    have ne_b12_b14 : b12 ≠ b14 := own_lt_ne Ga12.lt q14
    have O_14 := O_12.keep KK14 (allS z8 all0)
    have Va1_14 := Va1_12.keep KK14 (ninS ne_a1_a8 nin0)
    have Ea4_14 := Ea4_12.keep KK14
    have Fa4_coder_14 := Fa4_coder_12.keep KK14 (ninS ne_a4_a8 nin0)
    have Fa4_value_14 := Fa4_value_12.keep KK14 (ninS ne_a4_a8 nin0)
    have Vt7_14 := Vt7_12.keep KK14 (ninS ne_t7_a8 nin0)
    have Ea8_14 := Ea8_12.keep KK14
    have Vb9_14 := Vb9_12.keep KK14 (ninS (Ne.symm ne_a8_b9) nin0)
    have Vb10_14 := Vb10_12.keep KK14 (ninS (Ne.symm ne_a8_b10) nin0)
    have Vb12_14 := Ga12.keep KK14 (ninS (Ne.symm ne_a8_b12) nin0)
    have K14 := K12.trans KK14 (allS (Or.inr q8) all0)
    refine own_go st14 ?_
    show own_Fin p.tables e below _ (T14.setTop (mkF m 117 #[.val (.int i1), .val (.int i2), .val (.int i3), .val (.int i4), .val (.int i5), .val (.int ((i2 &&& (127 : Int32)).toUInt32.toUInt16.toUInt32.toInt32)), .val (.int ((i3 &&& (127 : Int32)).toUInt32.toUInt16.toUInt32.toInt32)), .val (.ref a1), .val (.ref a4), .val (.ref a8), .val (.int (1 : Int32)), .val (.int (1 : Int32)), .unset] []))
    refine own_go (fun _ k => XS.aload X14.here hx rfl (hb hby at_117) rfl rfl k) ?_
    show own_Fin p.tables e below _ (T14.setTop (mkF m 119 #[.val (.int i1), .val (.int i2), .val (.int i3), .val (.int i4), .val (.int i5), .val (.int ((i2 &&& (127 : Int32)).toUInt32.toUInt16.toUInt32.toInt32)), .val (.int ((i3 &&& (127 : Int32)).toUInt32.toUInt16.toUInt32.toInt32)), .val (.ref a1), .val (.ref a4), .val (.ref a8), .val (.int (1 : Int32)), .val (.int (1 : Int32)), .unset] [(.ref a8)]))
    obtain ⟨_, T15, L15, X15, ⟨rfl, M15, e15⟩, st15⟩ := own_callV X14 hx hZ hown (hw _ (List.mem_of_getElem? (i := 71) rfl)) (hw _ (List.mem_of_getElem? (i := 72) rfl)) (hw _ (List.mem_of_getElem? (i := 74) rfl)) (hw _ (List.mem_of_getElem? (i := 73) rfl)) (hw _ (List.mem_of_getElem? (i := 32) rfl)) (hw _ (List.mem_of_getElem? (i := 75) rfl)) (by decide) (W := 0) (rml4 l Z a0 hw [] a8 T14.heap n0 (Nat.le_trans Z0 K14.1) b14 kb14 (nar .byte (((i2 &&& (127 : Int32)).toUInt32.toUInt16.toUInt32.toInt32).toInt8.toInt32)) (nar .byte (((i3 &&& (127 : Int32)).toUInt32.toUInt16.toUInt32.toInt32).toInt8.toInt32)) ((nar .char ((i4 &&& (127 : Int32)).toUInt32.toUInt16.toUInt32.toInt32)).toInt8.toInt32) ((nar .char ((i5 &&& (127 : Int32)).toUInt32.toUInt16.toUInt32.toInt32)).toInt8.toInt32) (4 : Int32) Ea8_14 Gb14 Gl14 Ga14 z8 (Nat.le_trans Z0 (Nat.le_trans K12.1 q14)) (by decide)) (by decide) (by decide) rfl Ea8_14 (g := (mkF m 119 #[.val (.int i1), .val (.int i2), .val (.int i3), .val (.int i4), .val (.int i5), .val (.int ((i2 &&& (127 : Int32)).toUInt32.toUInt16.toUInt32.toInt32)), .val (.int ((i3 &&& (127 : Int32)).toUInt32.toUInt16.toUInt32.toInt32)), .val (.ref a1), .val (.ref a4), .val (.ref a8), .val (.int (1 : Int32)), .val (.int (1 : Int32)), .unset] [(.ref a8)])) rfl (by rw [hml]; rfl) (argsL := []) (rest := []) rfl (lenOf pd6 rfl) rfl (by show 2 * 0 + _ ≤ _; exact Nat.le_of_eq rfl) (hb hby at_119) (by decide) (by decide)
    have N15 := Fr.app N14 M15
    refine own_go st15 ?_
    show own_Fin p.tables e below _ (T15.setTop (mkF m 122 #[.val (.int i1), .val (.int i2), .val (.int i3), .val (.int i4), .val (.int i5), .val (.int ((i2 &&& (127 : Int32)).toUInt32.toUInt16.toUInt32.toInt32)), .val (.int ((i3 &&& (127 : Int32)).toUInt32.toUInt16.toUInt32.toInt32)), .val (.ref a1), .val (.ref a4), .val (.ref a8), .val (.int (1 : Int32)), .val (.int (1 : Int32)), .unset] [(.int (nar .byte ((nar .char ((i5 &&& (127 : Int32)).toUInt32.toUInt16.toUInt32.toInt32)).toInt8.toInt32)))]))
    refine own_go (fun _ k => XS.aload X15.here hx rfl (hb hby at_122) rfl rfl k) ?_
    show own_Fin p.tables e below _ (T15.setTop (mkF m 124 #[.val (.int i1), .val (.int i2), .val (.int i3), .val (.int i4), .val (.int i5), .val (.int ((i2 &&& (127 : Int32)).toUInt32.toUInt16.toUInt32.toInt32)), .val (.int ((i3 &&& (127 : Int32)).toUInt32.toUInt16.toUInt32.toInt32)), .val (.ref a1), .val (.ref a4), .val (.ref a8), .val (.int (1 : Int32)), .val (.int (1 : Int32)), .unset] [(.ref a1), (.int (nar .byte ((nar .char ((i5 &&& (127 : Int32)).toUInt32.toUInt16.toUInt32.toInt32)).toInt8.toInt32)))]))
    refine own_go (fun _ k => XT.iconstV X15.here hx rfl (1 : Int32) (hb hby at_124) (by decide) k) ?_
    show own_Fin p.tables e below _ (T15.setTop (mkF m 125 #[.val (.int i1), .val (.int i2), .val (.int i3), .val (.int i4), .val (.int i5), .val (.int ((i2 &&& (127 : Int32)).toUInt32.toUInt16.toUInt32.toInt32)), .val (.int ((i3 &&& (127 : Int32)).toUInt32.toUInt16.toUInt32.toInt32)), .val (.ref a1), .val (.ref a4), .val (.ref a8), .val (.int (1 : Int32)), .val (.int (1 : Int32)), .unset] [(.int (1 : Int32)), (.ref a1), (.int (nar .byte ((nar .char ((i5 &&& (127 : Int32)).toUInt32.toUInt16.toUInt32.toInt32)).toInt8.toInt32)))]))
    refine own_go (fun _ k => own_cald X15 hx hZ e15 Va1_14 (j := (1 : Int32)) (by decide) (by decide) (g := (mkF m 125 #[.val (.int i1), .val (.int i2), .val (.int i3), .val (.int i4), .val (.int i5), .val (.int ((i2 &&& (127 : Int32)).toUInt32.toUInt16.toUInt32.toInt32)), .val (.int ((i3 &&& (127 : Int32)).toUInt32.toUInt16.toUInt32.toInt32)), .val (.ref a1), .val (.ref a4), .val (.ref a8), .val (.int (1 : Int32)), .val (.int (1 : Int32)), .unset] [(.int (1 : Int32)), (.ref a1), (.int (nar .byte ((nar .char ((i5 &&& (127 : Int32)).toUInt32.toUInt16.toUInt32.toInt32)).toInt8.toInt32)))])) rfl (rest := [(.int (nar .byte ((nar .char ((i5 &&& (127 : Int32)).toUInt32.toUInt16.toUInt32.toInt32)).toInt8.toInt32)))]) rfl (hb hby at_125) k) ?_
    show own_Fin p.tables e below _ (T15.setTop (mkF m 126 #[.val (.int i1), .val (.int i2), .val (.int i3), .val (.int i4), .val (.int i5), .val (.int ((i2 &&& (127 : Int32)).toUInt32.toUInt16.toUInt32.toInt32)), .val (.int ((i3 &&& (127 : Int32)).toUInt32.toUInt16.toUInt32.toInt32)), .val (.ref a1), .val (.ref a4), .val (.ref a8), .val (.int (1 : Int32)), .val (.int (1 : Int32)), .unset] [(.int (nar .char ((i5 &&& (127 : Int32)).toUInt32.toUInt16.toUInt32.toInt32))), (.int (nar .byte ((nar .char ((i5 &&& (127 : Int32)).toUInt32.toUInt16.toUInt32.toInt32)).toInt8.toInt32)))]))
    refine own_go (fun _ k => XT.i2b X15.here hx rfl (hb hby at_126) rfl k) ?_
    show own_Fin p.tables e below _ (T15.setTop (mkF m 127 #[.val (.int i1), .val (.int i2), .val (.int i3), .val (.int i4), .val (.int i5), .val (.int ((i2 &&& (127 : Int32)).toUInt32.toUInt16.toUInt32.toInt32)), .val (.int ((i3 &&& (127 : Int32)).toUInt32.toUInt16.toUInt32.toInt32)), .val (.ref a1), .val (.ref a4), .val (.ref a8), .val (.int (1 : Int32)), .val (.int (1 : Int32)), .unset] [(.int ((nar .char ((i5 &&& (127 : Int32)).toUInt32.toUInt16.toUInt32.toInt32)).toInt8.toInt32)), (.int (nar .byte ((nar .char ((i5 &&& (127 : Int32)).toUInt32.toUInt16.toUInt32.toInt32)).toInt8.toInt32)))]))
    refine own_go (fun _ k => XS.icmpNo X15.here hx rfl (hb hby at_127) rfl (XT.ii_ne_f (by simp only [own_narb])) k) ?_
    show own_Fin p.tables e below _ (T15.setTop (mkF m 130 #[.val (.int i1), .val (.int i2), .val (.int i3), .val (.int i4), .val (.int i5), .val (.int ((i2 &&& (127 : Int32)).toUInt32.toUInt16.toUInt32.toInt32)), .val (.int ((i3 &&& (127 : Int32)).toUInt32.toUInt16.toUInt32.toInt32)), .val (.ref a1), .val (.ref a4), .val (.ref a8), .val (.int (1 : Int32)), .val (.int (1 : Int32)), .unset] []))
    refine own_go (fun _ k => XT.iconstV X15.here hx rfl (1 : Int32) (hb hby at_130) (by decide) k) ?_
    show own_Fin p.tables e below _ (T15.setTop (mkF m 131 #[.val (.int i1), .val (.int i2), .val (.int i3), .val (.int i4), .val (.int i5), .val (.int ((i2 &&& (127 : Int32)).toUInt32.toUInt16.toUInt32.toInt32)), .val (.int ((i3 &&& (127 : Int32)).toUInt32.toUInt16.toUInt32.toInt32)), .val (.ref a1), .val (.ref a4), .val (.ref a8), .val (.int (1 : Int32)), .val (.int (1 : Int32)), .unset] [(.int (1 : Int32))]))
    refine own_go (fun _ k => XS.goto X15.here hx rfl (pc0 := 131) (pc' := 135) rfl (hb hby at_131) (by decide) (by decide) k) ?_
    show own_Fin p.tables e below _ (T15.setTop (mkF m 135 #[.val (.int i1), .val (.int i2), .val (.int i3), .val (.int i4), .val (.int i5), .val (.int ((i2 &&& (127 : Int32)).toUInt32.toUInt16.toUInt32.toInt32)), .val (.int ((i3 &&& (127 : Int32)).toUInt32.toUInt16.toUInt32.toInt32)), .val (.ref a1), .val (.ref a4), .val (.ref a8), .val (.int (1 : Int32)), .val (.int (1 : Int32)), .unset] [(.int (1 : Int32))]))
    refine own_go (fun _ k => XS.istore X15.here hx rfl (hb hby at_135) rfl (l' := #[.val (.int i1), .val (.int i2), .val (.int i3), .val (.int i4), .val (.int i5), .val (.int ((i2 &&& (127 : Int32)).toUInt32.toUInt16.toUInt32.toInt32)), .val (.int ((i3 &&& (127 : Int32)).toUInt32.toUInt16.toUInt32.toInt32)), .val (.ref a1), .val (.ref a4), .val (.ref a8), .val (.int (1 : Int32)), .val (.int (1 : Int32)), .val (.int (1 : Int32))]) rfl k) ?_
    show own_Fin p.tables e below _ (T15.setTop (mkF m 137 #[.val (.int i1), .val (.int i2), .val (.int i3), .val (.int i4), .val (.int i5), .val (.int ((i2 &&& (127 : Int32)).toUInt32.toUInt16.toUInt32.toInt32)), .val (.int ((i3 &&& (127 : Int32)).toUInt32.toUInt16.toUInt32.toInt32)), .val (.ref a1), .val (.ref a4), .val (.ref a8), .val (.int (1 : Int32)), .val (.int (1 : Int32)), .val (.int (1 : Int32))] []))
    refine own_go (fun _ k => XS.iload X15.here hx rfl (hb hby at_137) rfl k) ?_
    show own_Fin p.tables e below _ (T15.setTop (mkF m 139 #[.val (.int i1), .val (.int i2), .val (.int i3), .val (.int i4), .val (.int i5), .val (.int ((i2 &&& (127 : Int32)).toUInt32.toUInt16.toUInt32.toInt32)), .val (.int ((i3 &&& (127 : Int32)).toUInt32.toUInt16.toUInt32.toInt32)), .val (.ref a1), .val (.ref a4), .val (.ref a8), .val (.int (1 : Int32)), .val (.int (1 : Int32)), .val (.int (1 : Int32))] [(.int (1 : Int32))]))
    refine own_go (fun _ k => XS.iload X15.here hx rfl (hb hby at_139) rfl k) ?_
    show own_Fin p.tables e below _ (T15.setTop (mkF m 141 #[.val (.int i1), .val (.int i2), .val (.int i3), .val (.int i4), .val (.int i5), .val (.int ((i2 &&& (127 : Int32)).toUInt32.toUInt16.toUInt32.toInt32)), .val (.int ((i3 &&& (127 : Int32)).toUInt32.toUInt16.toUInt32.toInt32)), .val (.ref a1), .val (.ref a4), .val (.ref a8), .val (.int (1 : Int32)), .val (.int (1 : Int32)), .val (.int (1 : Int32))] [(.int (1 : Int32)), (.int (1 : Int32))]))
    refine own_go (fun _ k => XS.iand X15.here hx rfl (hb hby at_141) rfl k) ?_
    show own_Fin p.tables e below _ (T15.setTop (mkF m 142 #[.val (.int i1), .val (.int i2), .val (.int i3), .val (.int i4), .val (.int i5), .val (.int ((i2 &&& (127 : Int32)).toUInt32.toUInt16.toUInt32.toInt32)), .val (.int ((i3 &&& (127 : Int32)).toUInt32.toUInt16.toUInt32.toInt32)), .val (.ref a1), .val (.ref a4), .val (.ref a8), .val (.int (1 : Int32)), .val (.int (1 : Int32)), .val (.int (1 : Int32))] [(.int ((1 : Int32) &&& (1 : Int32)))]))
    refine own_go (fun _ k => XS.iload X15.here hx rfl (hb hby at_142) rfl k) ?_
    show own_Fin p.tables e below _ (T15.setTop (mkF m 144 #[.val (.int i1), .val (.int i2), .val (.int i3), .val (.int i4), .val (.int i5), .val (.int ((i2 &&& (127 : Int32)).toUInt32.toUInt16.toUInt32.toInt32)), .val (.int ((i3 &&& (127 : Int32)).toUInt32.toUInt16.toUInt32.toInt32)), .val (.ref a1), .val (.ref a4), .val (.ref a8), .val (.int (1 : Int32)), .val (.int (1 : Int32)), .val (.int (1 : Int32))] [(.int (1 : Int32)), (.int ((1 : Int32) &&& (1 : Int32)))]))
    refine own_go (fun _ k => XS.iand X15.here hx rfl (hb hby at_144) rfl k) ?_
    show own_Fin p.tables e below _ (T15.setTop (mkF m 145 #[.val (.int i1), .val (.int i2), .val (.int i3), .val (.int i4), .val (.int i5), .val (.int ((i2 &&& (127 : Int32)).toUInt32.toUInt16.toUInt32.toInt32)), .val (.int ((i3 &&& (127 : Int32)).toUInt32.toUInt16.toUInt32.toInt32)), .val (.ref a1), .val (.ref a4), .val (.ref a8), .val (.int (1 : Int32)), .val (.int (1 : Int32)), .val (.int (1 : Int32))] [(.int (((1 : Int32) &&& (1 : Int32)) &&& (1 : Int32)))]))
    refine own_retN X15 hx hlk (t := .boolean) hret (by simp) (hb hby at_145) ?_ (by decide) (by decide)
    exact ⟨rfl, N15⟩
  · rw [q]
    show own_Fin p.tables e below _ (T8.setTop (mkF m 55 #[.val (.int i1), .val (.int i2), .val (.int i3), .val (.int i4), .val (.int i5), .val (.int ((i2 &&& (127 : Int32)).toUInt32.toUInt16.toUInt32.toInt32)), .val (.int ((i3 &&& (127 : Int32)).toUInt32.toUInt16.toUInt32.toInt32)), .val (.ref a1), .val (.ref a4), .unset, .unset, .unset, .unset] [(.int (1 : Int32)), (.ref a8), (.ref a8)]))
    obtain ⟨_, T16, L16, X16, ⟨rfl, M16, KK16, b16, kb16, Gb16, Gl16, q16, Ga16⟩, st16⟩ := own_callC X8 hx hZ hown rfl (hw _ (List.mem_of_getElem? (i := 33) rfl)) (hw _ (List.mem_of_getElem? (i := 34) rfl)) (hw _ (List.mem_of_getElem? (i := 32) rfl)) (hw _ (List.mem_of_getElem? (i := 35) rfl)) (by decide) (W := 1) (rmi l Z a0 hw [] a8 (1 : Int32) h8 n0 (Nat.le_trans Z0 K8.1) A8 Fa8_bytes Fa8_length z8 (by decide) (by decide)) (by decide) (by decide) e8 (g := (mkF m 55 #[.val (.int i1), .val (.int i2), .val (.int i3), .val (.int i4), .val (.int i5), .val (.int ((i2 &&& (127 : Int32)).toUInt32.toUInt16.toUInt32.toInt32)), .val (.int ((i3 &&& (127 : Int32)).toUInt32.toUInt16.toUInt32.toInt32)), .val (.ref a1), .val (.ref a4), .unset, .unset, .unset, .unset] [(.int (1 : Int32)), (.ref a8), (.ref a8)])) rfl (by rw [hml]; rfl) (argsL := [(.int (1 : Int32))]) (rest := [(.ref a8)]) rfl (lenOf pd4 rfl) rfl (by show 2 * 0 + _ ≤ _; exact Nat.le_of_eq rfl) (hb hby at_55) (by decide) (by decide)
    have N16 := Fr.app N7 M16
    have ne_a1_b16 : a1 ≠ b16 := own_lt_ne Va1_8.lt q16
    have ne_a4_b16 : a4 ≠ b16 := own_lt_ne Ea4_8.lt q16
    have ne_t7_b16 : t7 ≠ b16 := own_lt_ne Vt7_8.lt q16
    have ne_a8_b16 : a8 ≠ b16 := own_lt_ne A8.lt q16
    have O_16 := O_8.keep KK16 (allS z8 all0)
    have Va1_16 := Va1_8.keep KK16 (ninS ne_a1_a8 nin0)
    have Ea4_16 := Ea4_8.keep KK16
    have Fa4_coder_16 := Fa4_coder_8.keep KK16 (ninS ne_a4_a8 nin0)
    have Fa4_value_16 := Fa4_value_8.keep KK16 (ninS ne_a4_a8 nin0)
    have Vt7_16 := Vt7_8.keep KK16 (ninS ne_t7_a8 nin0)
    have Ea8_16 := A8.keep KK16
    have K16 := K8.trans KK16 (allS (Or.inr q8) all0)
    refine own_go st16 ?_
    show own_Fin p.tables e below _ (T16.setTop (mkF m 58 #[.val (.int i1), .val (.int i2), .val (.int i3), .val (.int i4), .val (.int i5), .val (.int ((i2 &&& (127 : Int32)).toUInt32.toUInt16.toUInt32.toInt32)), .val (.int ((i3 &&& (127 : Int32)).toUInt32.toUInt16.toUInt32.toInt32)), .val (.ref a1), .val (.ref a4), .unset, .unset, .unset, .unset] [(.ref a8)]))
    refine own_go (fun _ k => XS.astore X16.here hx rfl (hb hby at_58) rfl rfl (l' := #[.val (.int i1), .val (.int i2), .val (.int i3), .val (.int i4), .val (.int i5), .val (.int ((i2 &&& (127 : Int32)).toUInt32.toUInt16.toUInt32.toInt32)), .val (.int ((i3 &&& (127 : Int32)).toUInt32.toUInt16.toUInt32.toInt32)), .val (.ref a1), .val (.ref a4), .val (.ref a8), .unset, .unset, .unset]) rfl k) ?_
    show own_Fin p.tables e below _ (T16.setTop (mkF m 60 #[.val (.int i1), .val (.int i2), .val (.int i3), .val (.int i4), .val (.int i5), .val (.int ((i2 &&& (127 : Int32)).toUInt32.toUInt16.toUInt32.toInt32)), .val (.int ((i3 &&& (127 : Int32)).toUInt32.toUInt16.toUInt32.toInt32)), .val (.ref a1), .val (.ref a4), .val (.ref a8), .unset, .unset, .unset] []))
    refine own_go (fun _ k => XS.aload X16.here hx rfl (hb hby at_60) rfl rfl k) ?_
    show own_Fin p.tables e below _ (T16.setTop (mkF m 62 #[.val (.int i1), .val (.int i2), .val (.int i3), .val (.int i4), .val (.int i5), .val (.int ((i2 &&& (127 : Int32)).toUInt32.toUInt16.toUInt32.toInt32)), .val (.int ((i3 &&& (127 : Int32)).toUInt32.toUInt16.toUInt32.toInt32)), .val (.ref a1), .val (.ref a4), .val (.ref a8), .unset, .unset, .unset] [(.ref a8)]))
    refine own_go (fun _ k => XS.iload X16.here hx rfl (hb hby at_62) rfl k) ?_
    show own_Fin p.tables e below _ (T16.setTop (mkF m 64 #[.val (.int i1), .val (.int i2), .val (.int i3), .val (.int i4), .val (.int i5), .val (.int ((i2 &&& (127 : Int32)).toUInt32.toUInt16.toUInt32.toInt32)), .val (.int ((i3 &&& (127 : Int32)).toUInt32.toUInt16.toUInt32.toInt32)), .val (.ref a1), .val (.ref a4), .val (.ref a8), .unset, .unset, .unset] [(.int ((i2 &&& (127 : Int32)).toUInt32.toUInt16.toUInt32.toInt32)), (.ref a8)]))
    obtain ⟨_, T17, L17, X17, ⟨rfl, M17, KK17, Gb17, Gl17, Ga17⟩, st17⟩ := own_callV X16 hx hZ hown (hw _ (List.mem_of_getElem? (i := 39) rfl)) (hw _ (List.mem_of_getElem? (i := 40) rfl)) (hw _ (List.mem_of_getElem? (i := 42) rfl)) (hw _ (List.mem_of_getElem? (i := 41) rfl)) (hw _ (List.mem_of_getElem? (i := 32) rfl)) (hw _ (List.mem_of_getElem? (i := 43) rfl)) (by decide) (W := 0) (rman0 l Z a0 hw [] a8 ((i2 &&& (127 : Int32)).toUInt32.toUInt16.toUInt32.toInt32) T16.heap n0 (Nat.le_trans Z0 K16.1) b16 kb16  (1 : Int32) Ea8_16 Gb16 Gl16 Ga16 z8 (Nat.le_trans Z0 (Nat.le_trans K8.1 q16)) (by decide)) (by decide) (by decide) rfl Ea8_16 (g := (mkF m 64 #[.val (.int i1), .val (.int i2), .val (.int i3), .val (.int i4), .val (.int i5), .val (.int ((i2 &&& (127 : Int32)).toUInt32.toUInt16.toUInt32.toInt32)), .val (.int ((i3 &&& (127 : Int32)).toUInt32.toUInt16.toUInt32.toInt32)), .val (.ref a1), .val (.ref a4), .val (.ref a8), .unset, .unset, .unset] [(.int ((i2 &&& (127 : Int32)).toUInt32.toUInt16.toUInt32.toInt32)), (.ref a8)])) rfl (by rw [hml]; rfl) (argsL := [(.int ((i2 &&& (127 : Int32)).toUInt32.toUInt16.toUInt32.toInt32))]) (rest := []) rfl (lenOf pd5 rfl) rfl (by show 2 * 0 + _ ≤ _; exact Nat.le_of_eq rfl) (hb hby at_64) (by decide) (by decide)
    have N17 := Fr.app N16 M17
    have O_17 := O_16.keep KK17 (allS z8 (allS (Nat.le_trans Z0 (Nat.le_trans K8.1 q16)) all0))
    have Va1_17 := Va1_16.keep KK17 (ninS ne_a1_a8 (ninS ne_a1_b16 nin0))
    have Ea4_17 := Ea4_16.keep KK17
    have Fa4_coder_17 := Fa4_coder_16.keep KK17 (ninS ne_a4_a8 (ninS ne_a4_b16 nin0))
    have Fa4_value_17 := Fa4_value_16.keep KK17 (ninS ne_a4_a8 (ninS ne_a4_b16 nin0))
    have Vt7_17 := Vt7_16.keep KK17 (ninS ne_t7_a8 (ninS ne_t7_b16 nin0))
    have Ea8_17 := Ea8_16.keep KK17
    have K17 := K16.trans KK17 (allS (Or.inr q8) (allS (Or.inr (Nat.le_trans K8.1 q16)) all0))
    refine own_go st17 ?_
    show own_Fin p.tables e below _ (T17.setTop (mkF m 67 #[.val (.int i1), .val (.int i2), .val (.int i3), .val (.int i4), .val (.int i5), .val (.int ((i2 &&& (127 : Int32)).toUInt32.toUInt16.toUInt32.toInt32)), .val (.int ((i3 &&& (127 : Int32)).toUInt32.toUInt16.toUInt32.toInt32)), .val (.ref a1), .val (.ref a4), .val (.ref a8), .unset, .unset, .unset] []))
    refine own_go (fun _ k => XS.aload X17.here hx rfl (hb hby at_67) rfl rfl k) ?_
    show own_Fin p.tables e below _ (T17.setTop (mkF m 69 #[.val (.int i1), .val (.int i2), .val (.int i3), .val (.int i4), .val (.int i5), .val (.int ((i2 &&& (127 : Int32)).toUInt32.toUInt16.toUInt32.toInt32)), .val (.int ((i3 &&& (127 : Int32)).toUInt32.toUInt16.toUInt32.toInt32)), .val (.ref a1), .val (.ref a4), .val (.ref a8), .unset, .unset, .unset] [(.ref a8)]))
    obtain ⟨_, T18, L18, X18, ⟨rfl, M18, e18⟩, st18⟩ := own_callV X17 hx hZ hown (hw _ (List.mem_of_getElem? (i := 71) rfl)) (hw _ (List.mem_of_getElem? (i := 72) rfl)) (hw _ (List.mem_of_getElem? (i := 74) rfl)) (hw _ (List.mem_of_getElem? (i := 73) rfl)) (hw _ (List.mem_of_getElem? (i := 32) rfl)) (hw _ (List.mem_of_getElem? (i := 75) rfl)) (by decide) (W := 0) (rml1 l Z a0 hw [] a8 T17.heap n0 (Nat.le_trans Z0 K17.1) b16 kb16 (nar .byte (((i2 &&& (127 : Int32)).toUInt32.toUInt16.toUInt32.toInt32).toInt8.toInt32)) (1 : Int32) Ea8_17 Gb17 Gl17 Ga17 z8 (Nat.le_trans Z0 (Nat.le_trans K8.1 q16)) (by decide)) (by decide) (by decide) rfl Ea8_17 (g := (mkF m 69 #[.val (.int i1), .val (.int i2), .val (.int i3), .val (.int i4), .val (.int i5), .val (.int ((i2 &&& (127 : Int32)).toUInt32.toUInt16.toUInt32.toInt32)), .val (.int ((i3 &&& (127 : Int32)).toUInt32.toUInt16.toUInt32.toInt32)), .val (.ref a1), .val (.ref a4), .val (.ref a8), .unset, .unset, .unset] [(.ref a8)])) rfl (by rw [hml]; rfl) (argsL := []) (rest := []) rfl (lenOf pd6 rfl) rfl (by show 2 * 0 + _ ≤ _; exact Nat.le_of_eq rfl) (hb hby at_69) (by decide) (by decide)
    have N18 := Fr.app N17 M18
    refine own_go st18 ?_
    show own_Fin p.tables e below _ (T18.setTop (mkF m 72 #[.val (.int i1), .val (.int i2), .val (.int i3), .val (.int i4), .val (.int i5), .val (.int ((i2 &&& (127 : Int32)).toUInt32.toUInt16.toUInt32.toInt32)), .val (.int ((i3 &&& (127 : Int32)).toUInt32.toUInt16.toUInt32.toInt32)), .val (.ref a1), .val (.ref a4), .val (.ref a8), .unset, .unset, .unset] [(.int (nar .byte (nar .byte (((i2 &&& (127 : Int32)).toUInt32.toUInt16.toUInt32.toInt32).toInt8.toInt32))))]))
    refine own_go (fun _ k => XS.iload X18.here hx rfl (hb hby at_72) rfl k) ?_
    show own_Fin p.tables e below _ (T18.setTop (mkF m 74 #[.val (.int i1), .val (.int i2), .val (.int i3), .val (.int i4), .val (.int i5), .val (.int ((i2 &&& (127 : Int32)).toUInt32.toUInt16.toUInt32.toInt32)), .val (.int ((i3 &&& (127 : Int32)).toUInt32.toUInt16.toUInt32.toInt32)), .val (.ref a1), .val (.ref a4), .val (.ref a8), .unset, .unset, .unset] [(.int ((i2 &&& (127 : Int32)).toUInt32.toUInt16.toUInt32.toInt32)), (.int (nar .byte (nar .byte (((i2 &&& (127 : Int32)).toUInt32.toUInt16.toUInt32.toInt32).toInt8.toInt32))))]))
    refine own_go (fun _ k => XT.i2b X18.here hx rfl (hb hby at_74) rfl k) ?_
    show own_Fin p.tables e below _ (T18.setTop (mkF m 75 #[.val (.int i1), .val (.int i2), .val (.int i3), .val (.int i4), .val (.int i5), .val (.int ((i2 &&& (127 : Int32)).toUInt32.toUInt16.toUInt32.toInt32)), .val (.int ((i3 &&& (127 : Int32)).toUInt32.toUInt16.toUInt32.toInt32)), .val (.ref a1), .val (.ref a4), .val (.ref a8), .unset, .unset, .unset] [(.int (((i2 &&& (127 : Int32)).toUInt32.toUInt16.toUInt32.toInt32).toInt8.toInt32)), (.int (nar .byte (nar .byte (((i2 &&& (127 : Int32)).toUInt32.toUInt16.toUInt32.toInt32).toInt8.toInt32))))]))
    refine own_go (fun _ k => XS.icmpNo X18.here hx rfl (hb hby at_75) rfl (XT.ii_ne_f (by simp only [own_narb])) k) ?_
    show own_Fin p.tables e below _ (T18.setTop (mkF m 78 #[.val (.int i1), .val (.int i2), .val (.int i3), .val (.int i4), .val (.int i5), .val (.int ((i2 &&& (127 : Int32)).toUInt32.toUInt16.toUInt32.toInt32)), .val (.int ((i3 &&& (127 : Int32)).toUInt32.toUInt16.toUInt32.toInt32)), .val (.ref a1), .val (.ref a4), .val (.ref a8), .unset, .unset, .unset] []))
    refine own_go (fun _ k => XT.iconstV X18.here hx rfl (1 : Int32) (hb hby at_78) (by decide) k) ?_
    show own_Fin p.tables e below _ (T18.setTop (mkF m 79 #[.val (.int i1), .val (.int i2), .val (.int i3), .val (.int i4), .val (.int i5), .val (.int ((i2 &&& (127 : Int32)).toUInt32.toUInt16.toUInt32.toInt32)), .val (.int ((i3 &&& (127 : Int32)).toUInt32.toUInt16.toUInt32.toInt32)), .val (.ref a1), .val (.ref a4), .val (.ref a8), .unset, .unset, .unset] [(.int (1 : Int32))]))
    refine own_go (fun _ k => XS.goto X18.here hx rfl (pc0 := 79) (pc' := 83) rfl (hb hby at_79) (by decide) (by decide) k) ?_
    show own_Fin p.tables e below _ (T18.setTop (mkF m 83 #[.val (.int i1), .val (.int i2), .val (.int i3), .val (.int i4), .val (.int i5), .val (.int ((i2 &&& (127 : Int32)).toUInt32.toUInt16.toUInt32.toInt32)), .val (.int ((i3 &&& (127 : Int32)).toUInt32.toUInt16.toUInt32.toInt32)), .val (.ref a1), .val (.ref a4), .val (.ref a8), .unset, .unset, .unset] [(.int (1 : Int32))]))
    refine own_go (fun _ k => XS.istore X18.here hx rfl (hb hby at_83) rfl (l' := #[.val (.int i1), .val (.int i2), .val (.int i3), .val (.int i4), .val (.int i5), .val (.int ((i2 &&& (127 : Int32)).toUInt32.toUInt16.toUInt32.toInt32)), .val (.int ((i3 &&& (127 : Int32)).toUInt32.toUInt16.toUInt32.toInt32)), .val (.ref a1), .val (.ref a4), .val (.ref a8), .val (.int (1 : Int32)), .unset, .unset]) rfl k) ?_
    show own_Fin p.tables e below _ (T18.setTop (mkF m 85 #[.val (.int i1), .val (.int i2), .val (.int i3), .val (.int i4), .val (.int i5), .val (.int ((i2 &&& (127 : Int32)).toUInt32.toUInt16.toUInt32.toInt32)), .val (.int ((i3 &&& (127 : Int32)).toUInt32.toUInt16.toUInt32.toInt32)), .val (.ref a1), .val (.ref a4), .val (.ref a8), .val (.int (1 : Int32)), .unset, .unset] []))
    refine own_go (fun _ k => XS.aload X18.here hx rfl (hb hby at_85) rfl rfl k) ?_
    show own_Fin p.tables e below _ (T18.setTop (mkF m 87 #[.val (.int i1), .val (.int i2), .val (.int i3), .val (.int i4), .val (.int i5), .val (.int ((i2 &&& (127 : Int32)).toUInt32.toUInt16.toUInt32.toInt32)), .val (.int ((i3 &&& (127 : Int32)).toUInt32.toUInt16.toUInt32.toInt32)), .val (.ref a1), .val (.ref a4), .val (.ref a8), .val (.int (1 : Int32)), .unset, .unset] [(.ref a8)]))
    refine own_go (fun _ k => XS.iload X18.here hx rfl (hb hby at_87) rfl k) ?_
    show own_Fin p.tables e below _ (T18.setTop (mkF m 89 #[.val (.int i1), .val (.int i2), .val (.int i3), .val (.int i4), .val (.int i5), .val (.int ((i2 &&& (127 : Int32)).toUInt32.toUInt16.toUInt32.toInt32)), .val (.int ((i3 &&& (127 : Int32)).toUInt32.toUInt16.toUInt32.toInt32)), .val (.ref a1), .val (.ref a4), .val (.ref a8), .val (.int (1 : Int32)), .unset, .unset] [(.int ((i3 &&& (127 : Int32)).toUInt32.toUInt16.toUInt32.toInt32)), (.ref a8)]))
    obtain ⟨_, T19, L19, X19, ⟨rfl, M19, KK19, b19, kb19, Gb19, Gl19, q19, Ga19⟩, st19⟩ := own_callV X18 hx hZ hown (hw _ (List.mem_of_getElem? (i := 39) rfl)) (hw _ (List.mem_of_getElem? (i := 40) rfl)) (hw _ (List.mem_of_getElem? (i := 42) rfl)) (hw _ (List.mem_of_getElem? (i := 41) rfl)) (hw _ (List.mem_of_getElem? (i := 32) rfl)) (hw _ (List.mem_of_getElem? (i := 43) rfl)) (by decide) (W := 0) (rmag1 l Z a0 hw [] a8 ((i3 &&& (127 : Int32)).toUInt32.toUInt16.toUInt32.toInt32) T17.heap n0 (Nat.le_trans Z0 K17.1) b16 kb16 (nar .byte (((i2 &&& (127 : Int32)).toUInt32.toUInt16.toUInt32.toInt32).toInt8.toInt32))  Ea8_17 Gb17 Gl17 Ga17 z8 (Nat.le_trans Z0 (Nat.le_trans K8.1 q16))) (by decide) (by decide) e18 Ea8_17 (g := (mkF m 89 #[.val (.int i1), .val (.int i2), .val (.int i3), .val (.int i4), .val (.int i5), .val (.int ((i2 &&& (127 : Int32)).toUInt32.toUInt16.toUInt32.toInt32)), .val (.int ((i3 &&& (127 : Int32)).toUInt32.toUInt16.toUInt32.toInt32)), .val (.ref a1), .val (.ref a4), .val (.ref a8), .val (.int (1 : Int32)), .unset, .unset] [(.int ((i3 &&& (127 : Int32)).toUInt32.toUInt16.toUInt32.toInt32)), (.ref a8)])) rfl (by rw [hml]; rfl) (argsL := [(.int ((i3 &&& (127 : Int32)).toUInt32.toUInt16.toUInt32.toInt32))]) (rest := []) rfl (lenOf pd5 rfl) rfl (by show 2 * 0 + _ ≤ _; exact Nat.le_of_eq rfl) (hb hby at_89) (by decide) (by decide)
    have N19 := Fr.app N18 M19
    have ne_a1_b19 : a1 ≠ b19 := own_lt_ne Va1_17.lt q19
    have ne_a4_b19 : a4 ≠ b19 := own_lt_ne Ea4_17.lt q19
    have ne_t7_b19 : t7 ≠ b19 := own_lt_ne Vt7_17.lt q19
    have ne_a8_b19 : a8 ≠ b19 := own_lt_ne Ea8_17.lt q19
    have ne_b16_b19 : b16 ≠ b19 := own_lt_ne Ga17.lt q19
    have O_19 := O_17.keep KK19 (allS z8 all0)
    have Va1_19 := Va1_17.keep KK19 (ninS ne_a1_a8 nin0)
    have Ea4_19 := Ea4_17.keep KK19
    have Fa4_coder_19 := Fa4_coder_17.keep KK19 (ninS ne_a4_a8 nin0)
    have Fa4_value_19 := Fa4_value_17.keep KK19 (ninS ne_a4_a8 nin0)
    have Vt7_19 := Vt7_17.keep KK19 (ninS ne_t7_a8 nin0)
    have Ea8_19 := Ea8_17.keep KK19
    have Vb16_19 := Ga17.keep KK19 (ninS (Ne.symm ne_a8_b16) nin0)
    have K19 := K17.trans KK19 (allS (Or.inr q8) all0)
    refine own_go st19 ?_
    show own_Fin p.tables e below _ (T19.setTop (mkF m 92 #[.val (.int i1), .val (.int i2), .val (.int i3), .val (.int i4), .val (.int i5), .val (.int ((i2 &&& (127 : Int32)).toUInt32.toUInt16.toUInt32.toInt32)), .val (.int ((i3 &&& (127 : Int32)).toUInt32.toUInt16.toUInt32.toInt32)), .val (.ref a1), .val (.ref a4), .val (.ref a8), .val (.int (1 : Int32)), .unset, .unset] []))
    refine own_go (fun _ k => XS.aload X19.here hx rfl (hb hby at_92) rfl rfl k) ?_
    show own_Fin p.tables e below _ (T19.setTop (mkF m 94 #[.val (.int i1), .val (.int i2), .val (.int i3), .val (.int i4), .val (.int i5), .val (.int ((i2 &&& (127 : Int32)).toUInt32.toUInt16.toUInt32.toInt32)), .val (.int ((i3 &&& (127 : Int32)).toUInt32.toUInt16.toUInt32.toInt32)), .val (.ref a1), .val (.ref a4), .val (.ref a8), .val (.int (1 : Int32)), .unset, .unset] [(.ref a8)]))
    obtain ⟨_, T20, L20, X20, ⟨rfl, M20, e20⟩, st20⟩ := own_callV X19 hx hZ hown (hw _ (List.mem_of_getElem? (i := 71) rfl)) (hw _ (List.mem_of_getElem? (i := 72) rfl)) (hw _ (List.mem_of_getElem? (i := 74) rfl)) (hw _ (List.mem_of_getElem? (i := 73) rfl)) (hw _ (List.mem_of_getElem? (i := 32) rfl)) (hw _ (List.mem_of_getElem? (i := 75) rfl)) (by decide) (W := 0) (rml2 l Z a0 hw [] a8 T19.heap n0 (Nat.le_trans Z0 K19.1) b19 kb19 (nar .byte (((i2 &&& (127 : Int32)).toUInt32.toUInt16.toUInt32.toInt32).toInt8.toInt32)) (nar .byte (((i3 &&& (127 : Int32)).toUInt32.toUInt16.toUInt32.toInt32).toInt8.toInt32)) (2 : Int32) Ea8_19 Gb19 Gl19 Ga19 z8 (Nat.le_trans Z0 (Nat.le_trans K17.1 q19)) (by decide)) (by decide) (by decide) rfl Ea8_19 (g := (mkF m 94 #[.val (.int i1), .val (.int i2), .val (.int i3), .val (.int i4), .val (.int i5), .val (.int ((i2 &&& (127 : Int32)).toUInt32.toUInt16.toUInt32.toInt32)), .val (.int ((i3 &&& (127 : Int32)).toUInt32.toUInt16.toUInt32.toInt32)), .val (.ref a1), .val (.ref a4), .val (.ref a8), .val (.int (1 : Int32)), .unset, .unset] [(.ref a8)])) rfl (by rw [hml]; rfl) (argsL := []) (rest := []) rfl (lenOf pd6 rfl) rfl (by show 2 * 0 + _ ≤ _; exact Nat.le_of_eq rfl) (hb hby at_94) (by decide) (by decide)
    have N20 := Fr.app N19 M20
    refine own_go st20 ?_
    show own_Fin p.tables e below _ (T20.setTop (mkF m 97 #[.val (.int i1), .val (.int i2), .val (.int i3), .val (.int i4), .val (.int i5), .val (.int ((i2 &&& (127 : Int32)).toUInt32.toUInt16.toUInt32.toInt32)), .val (.int ((i3 &&& (127 : Int32)).toUInt32.toUInt16.toUInt32.toInt32)), .val (.ref a1), .val (.ref a4), .val (.ref a8), .val (.int (1 : Int32)), .unset, .unset] [(.int (nar .byte (nar .byte (((i3 &&& (127 : Int32)).toUInt32.toUInt16.toUInt32.toInt32).toInt8.toInt32))))]))
    refine own_go (fun _ k => XS.iload X20.here hx rfl (hb hby at_97) rfl k) ?_
    show own_Fin p.tables e below _ (T20.setTop (mkF m 99 #[.val (.int i1), .val (.int i2), .val (.int i3), .val (.int i4), .val (.int i5), .val (.int ((i2 &&& (127 : Int32)).toUInt32.toUInt16.toUInt32.toInt32)), .val (.int ((i3 &&& (127 : Int32)).toUInt32.toUInt16.toUInt32.toInt32)), .val (.ref a1), .val (.ref a4), .val (.ref a8), .val (.int (1 : Int32)), .unset, .unset] [(.int ((i3 &&& (127 : Int32)).toUInt32.toUInt16.toUInt32.toInt32)), (.int (nar .byte (nar .byte (((i3 &&& (127 : Int32)).toUInt32.toUInt16.toUInt32.toInt32).toInt8.toInt32))))]))
    refine own_go (fun _ k => XT.i2b X20.here hx rfl (hb hby at_99) rfl k) ?_
    show own_Fin p.tables e below _ (T20.setTop (mkF m 100 #[.val (.int i1), .val (.int i2), .val (.int i3), .val (.int i4), .val (.int i5), .val (.int ((i2 &&& (127 : Int32)).toUInt32.toUInt16.toUInt32.toInt32)), .val (.int ((i3 &&& (127 : Int32)).toUInt32.toUInt16.toUInt32.toInt32)), .val (.ref a1), .val (.ref a4), .val (.ref a8), .val (.int (1 : Int32)), .unset, .unset] [(.int (((i3 &&& (127 : Int32)).toUInt32.toUInt16.toUInt32.toInt32).toInt8.toInt32)), (.int (nar .byte (nar .byte (((i3 &&& (127 : Int32)).toUInt32.toUInt16.toUInt32.toInt32).toInt8.toInt32))))]))
    refine own_go (fun _ k => XS.icmpNo X20.here hx rfl (hb hby at_100) rfl (XT.ii_ne_f (by simp only [own_narb])) k) ?_
    show own_Fin p.tables e below _ (T20.setTop (mkF m 103 #[.val (.int i1), .val (.int i2), .val (.int i3), .val (.int i4), .val (.int i5), .val (.int ((i2 &&& (127 : Int32)).toUInt32.toUInt16.toUInt32.toInt32)), .val (.int ((i3 &&& (127 : Int32)).toUInt32.toUInt16.toUInt32.toInt32)), .val (.ref a1), .val (.ref a4), .val (.ref a8), .val (.int (1 : Int32)), .unset, .unset] []))
    refine own_go (fun _ k => XT.iconstV X20.here hx rfl (1 : Int32) (hb hby at_103) (by decide) k) ?_
    show own_Fin p.tables e below _ (T20.setTop (mkF m 104 #[.val (.int i1), .val (.int i2), .val (.int i3), .val (.int i4), .val (.int i5), .val (.int ((i2 &&& (127 : Int32)).toUInt32.toUInt16.toUInt32.toInt32)), .val (.int ((i3 &&& (127 : Int32)).toUInt32.toUInt16.toUInt32.toInt32)), .val (.ref a1), .val (.ref a4), .val (.ref a8), .val (.int (1 : Int32)), .unset, .unset] [(.int (1 : Int32))]))
    refine own_go (fun _ k => XS.goto X20.here hx rfl (pc0 := 104) (pc' := 108) rfl (hb hby at_104) (by decide) (by decide) k) ?_
    show own_Fin p.tables e below _ (T20.setTop (mkF m 108 #[.val (.int i1), .val (.int i2), .val (.int i3), .val (.int i4), .val (.int i5), .val (.int ((i2 &&& (127 : Int32)).toUInt32.toUInt16.toUInt32.toInt32)), .val (.int ((i3 &&& (127 : Int32)).toUInt32.toUInt16.toUInt32.toInt32)), .val (.ref a1), .val (.ref a4), .val (.ref a8), .val (.int (1 : Int32)), .unset, .unset] [(.int (1 : Int32))]))
    refine own_go (fun _ k => XS.istore X20.here hx rfl (hb hby at_108) rfl (l' := #[.val (.int i1), .val (.int i2), .val (.int i3), .val (.int i4), .val (.int i5), .val (.int ((i2 &&& (127 : Int32)).toUInt32.toUInt16.toUInt32.toInt32)), .val (.int ((i3 &&& (127 : Int32)).toUInt32.toUInt16.toUInt32.toInt32)), .val (.ref a1), .val (.ref a4), .val (.ref a8), .val (.int (1 : Int32)), .val (.int (1 : Int32)), .unset]) rfl k) ?_
    show own_Fin p.tables e below _ (T20.setTop (mkF m 110 #[.val (.int i1), .val (.int i2), .val (.int i3), .val (.int i4), .val (.int i5), .val (.int ((i2 &&& (127 : Int32)).toUInt32.toUInt16.toUInt32.toInt32)), .val (.int ((i3 &&& (127 : Int32)).toUInt32.toUInt16.toUInt32.toInt32)), .val (.ref a1), .val (.ref a4), .val (.ref a8), .val (.int (1 : Int32)), .val (.int (1 : Int32)), .unset] []))
    refine own_go (fun _ k => XS.aload X20.here hx rfl (hb hby at_110) rfl rfl k) ?_
    show own_Fin p.tables e below _ (T20.setTop (mkF m 112 #[.val (.int i1), .val (.int i2), .val (.int i3), .val (.int i4), .val (.int i5), .val (.int ((i2 &&& (127 : Int32)).toUInt32.toUInt16.toUInt32.toInt32)), .val (.int ((i3 &&& (127 : Int32)).toUInt32.toUInt16.toUInt32.toInt32)), .val (.ref a1), .val (.ref a4), .val (.ref a8), .val (.int (1 : Int32)), .val (.int (1 : Int32)), .unset] [(.ref a8)]))
    refine own_go (fun _ k => XS.aload X20.here hx rfl (hb hby at_112) rfl rfl k) ?_
    show own_Fin p.tables e below _ (T20.setTop (mkF m 114 #[.val (.int i1), .val (.int i2), .val (.int i3), .val (.int i4), .val (.int i5), .val (.int ((i2 &&& (127 : Int32)).toUInt32.toUInt16.toUInt32.toInt32)), .val (.int ((i3 &&& (127 : Int32)).toUInt32.toUInt16.toUInt32.toInt32)), .val (.ref a1), .val (.ref a4), .val (.ref a8), .val (.int (1 : Int32)), .val (.int (1 : Int32)), .unset] [(.ref a4), (.ref a8)]))
    obtain ⟨_, T21, L21, X21, ⟨rfl, M21, KK21, b21, kb21, Gb21, Gl21, q21, Ga21⟩, st21⟩ := own_callV X20 hx hZ hown (hw _ (List.mem_of_getElem? (i := 76) rfl)) (hw _ (List.mem_of_getElem? (i := 77) rfl)) (hw _ (List.mem_of_getElem? (i := 79) rfl)) (hw _ (List.mem_of_getElem? (i := 78) rfl)) (hw _ (List.mem_of_getElem? (i := 32) rfl)) (hw _ (List.mem_of_getElem? (i := 80) rfl)) (by decide) (W := 0) (rmx2 l Z a0 hw [] a8 a4 T19.heap n0 (Nat.le_trans Z0 K19.1) b19 kb19 (nar .byte (((i2 &&& (127 : Int32)).toUInt32.toUInt16.toUInt32.toInt32).toInt8.toInt32)) (nar .byte (((i3 &&& (127 : Int32)).toUInt32.toUInt16.toUInt32.toInt32).toInt8.toInt32))  Ea8_19 Gb19 Gl19 Ga19 z8 (Nat.le_trans Z0 (Nat.le_trans K17.1 q19))  t7 kb7 ((nar .char ((i4 &&& (127 : Int32)).toUInt32.toUInt16.toUInt32.toInt32)).toInt8.toInt32) ((nar .char ((i5 &&& (127 : Int32)).toUInt32.toUInt16.toUInt32.toInt32)).toInt8.toInt32) Ea4_19 Fa4_value_19 Fa4_coder_19 Vt7_19 ne_t7_b19 ic SC hz O_19 fm SF rf) (by decide) (by decide) e20 Ea8_19 (g := (mkF m 114 #[.val (.int i1), .val (.int i2), .val (.int i3), .val (.int i4), .val (.int i5), .val (.int ((i2 &&& (127 : Int32)).toUInt32.toUInt16.toUInt32.toInt32)), .val (.int ((i3 &&& (127 : Int32)).toUInt32.toUInt16.toUInt32.toInt32)), .val (.ref a1), .val (.ref a4), .val (.ref a8), .val (.int (1 : Int32)), .val (.int (1 : Int32)), .unset] [(.ref a4), (.ref a8)])) rfl (by rw [hml]; rfl) (argsL := [(.ref a4)]) (rest := []) rfl (lenOf pd16 rfl) rfl (by show 2 * 0 + _ ≤ _; exact Nat.le_of_eq rfl) (hb hby at_114) (by decide) (by decide)
    have N21 := Fr.app N20 M21
    have ne_a1_b21 : a1 ≠ b21 := own_lt_ne Va1_19.lt q21
    have ne_a4_b21 : a4 ≠ b21 := own_lt_ne Ea4_19.lt q21
    have ne_t7_b21 : t7 ≠ b21 := own_lt_ne Vt7_19.lt q21
    have ne_a8_b21 : a8 ≠ b21 := own_lt_ne Ea8_19.lt q21
    have ne_b16_b21 : b16 ≠ b21 := own_lt_ne Vb16_19.lt q21
    have ne_b19_b21 : b19 ≠ b21 := own_lt_ne Ga19.lt q21
    have O_21 := O_19.keep KK21 (allS z8 all0)
    have Va1_21 := Va1_19.keep KK21 (ninS ne_a1_a8 nin0)
    have Ea4_21 := Ea4_19.keep KK21
    have Fa4_coder_21 := Fa4_coder_19.keep KK21 (ninS ne_a4_a8 nin0)
    have Fa4_value_21 := Fa4_value_19.keep KK21 (ninS ne_a4_a8 nin0)
    have Vt7_21 := Vt7_19.keep KK21 (ninS ne_t7_a8 nin0)
    have Ea8_21 := Ea8_19.keep KK21
    have Vb16_21 := Vb16_19.keep KK21 (ninS (Ne.symm ne_a8_b16) nin0)
    have Vb19_21 := Ga19.keep KK21 (ninS (Ne.symm ne_a8_b19) nin0)
    have K21 := K19.trans KK21 (allS (Or.inr q8) all0)
    refine own_go st21 ?_
    show own_Fin p.tables e below _ (T21.setTop (mkF m 117 #[.val (.int i1), .val (.int i2), .val (.int i3), .val (.int i4), .val (.int i5), .val (.int ((i2 &&& (127 : Int32)).toUInt32.toUInt16.toUInt32.toInt32)), .val (.int ((i3 &&& (127 : Int32)).toUInt32.toUInt16.toUInt32.toInt32)), .val (.ref a1), .val (.ref a4), .val (.ref a8), .val (.int (1 : Int32)), .val (.int (1 : Int32)), .unset] []))
    refine own_go (fun _ k => XS.aload X21.here hx rfl (hb hby at_117) rfl rfl k) ?_
    show own_Fin p.tables e below _ (T21.setTop (mkF m 119 #[.val (.int i1), .val (.int i2), .val (.int i3), .val (.int i4), .val (.int i5), .val (.int ((i2 &&& (127 : Int32)).toUInt32.toUInt16.toUInt32.toInt32)), .val (.int ((i3 &&& (127 : Int32)).toUInt32.toUInt16.toUInt32.toInt32)), .val (.ref a1), .val (.ref a4), .val (.ref a8), .val (.int (1 : Int32)), .val (.int (1 : Int32)), .unset] [(.ref a8)]))
    obtain ⟨_, T22, L22, X22, ⟨rfl, M22, e22⟩, st22⟩ := own_callV X21 hx hZ hown (hw _ (List.mem_of_getElem? (i := 71) rfl)) (hw _ (List.mem_of_getElem? (i := 72) rfl)) (hw _ (List.mem_of_getElem? (i := 74) rfl)) (hw _ (List.mem_of_getElem? (i := 73) rfl)) (hw _ (List.mem_of_getElem? (i := 32) rfl)) (hw _ (List.mem_of_getElem? (i := 75) rfl)) (by decide) (W := 0) (rml4 l Z a0 hw [] a8 T21.heap n0 (Nat.le_trans Z0 K21.1) b21 kb21 (nar .byte (((i2 &&& (127 : Int32)).toUInt32.toUInt16.toUInt32.toInt32).toInt8.toInt32)) (nar .byte (((i3 &&& (127 : Int32)).toUInt32.toUInt16.toUInt32.toInt32).toInt8.toInt32)) ((nar .char ((i4 &&& (127 : Int32)).toUInt32.toUInt16.toUInt32.toInt32)).toInt8.toInt32) ((nar .char ((i5 &&& (127 : Int32)).toUInt32.toUInt16.toUInt32.toInt32)).toInt8.toInt32) (4 : Int32) Ea8_21 Gb21 Gl21 Ga21 z8 (Nat.le_trans Z0 (Nat.le_trans K19.1 q21)) (by decide)) (by decide) (by decide) rfl Ea8_21 (g := (mkF m 119 #[.val (.int i1), .val (.int i2), .val (.int i3), .val (.int i4), .val (.int i5), .val (.int ((i2 &&& (127 : Int32)).toUInt32.toUInt16.toUInt32.toInt32)), .val (.int ((i3 &&& (127 : Int32)).toUInt32.toUInt16.toUInt32.toInt32)), .val (.ref a1), .val (.ref a4), .val (.ref a8), .val (.int (1 : Int32)), .val (.int (1 : Int32)), .unset] [(.ref a8)])) rfl (by rw [hml]; rfl) (argsL := []) (rest := []) rfl (lenOf pd6 rfl) rfl (by show 2 * 0 + _ ≤ _; exact Nat.le_of_eq rfl) (hb hby at_119) (by decide) (by decide)
    have N22 := Fr.app N21 M22
    refine own_go st22 ?_
    show own_Fin p.tables e below _ (T22.setTop (mkF m 122 #[.val (.int i1), .val (.int i2), .val (.int i3), .val (.int i4), .val (.int i5), .val (.int ((i2 &&& (127 : Int32)).toUInt32.toUInt16.toUInt32.toInt32)), .val (.int ((i3 &&& (127 : Int32)).toUInt32.toUInt16.toUInt32.toInt32)), .val (.ref a1), .val (.ref a4), .val (.ref a8), .val (.int (1 : Int32)), .val (.int (1 : Int32)), .unset] [(.int (nar .byte ((nar .char ((i5 &&& (127 : Int32)).toUInt32.toUInt16.toUInt32.toInt32)).toInt8.toInt32)))]))
    refine own_go (fun _ k => XS.aload X22.here hx rfl (hb hby at_122) rfl rfl k) ?_
    show own_Fin p.tables e below _ (T22.setTop (mkF m 124 #[.val (.int i1), .val (.int i2), .val (.int i3), .val (.int i4), .val (.int i5), .val (.int ((i2 &&& (127 : Int32)).toUInt32.toUInt16.toUInt32.toInt32)), .val (.int ((i3 &&& (127 : Int32)).toUInt32.toUInt16.toUInt32.toInt32)), .val (.ref a1), .val (.ref a4), .val (.ref a8), .val (.int (1 : Int32)), .val (.int (1 : Int32)), .unset] [(.ref a1), (.int (nar .byte ((nar .char ((i5 &&& (127 : Int32)).toUInt32.toUInt16.toUInt32.toInt32)).toInt8.toInt32)))]))
    refine own_go (fun _ k => XT.iconstV X22.here hx rfl (1 : Int32) (hb hby at_124) (by decide) k) ?_
    show own_Fin p.tables e below _ (T22.setTop (mkF m 125 #[.val (.int i1), .val (.int i2), .val (.int i3), .val (.int i4), .val (.int i5), .val (.int ((i2 &&& (127 : Int32)).toUInt32.toUInt16.toUInt32.toInt32)), .val (.int ((i3 &&& (127 : Int32)).toUInt32.toUInt16.toUInt32.toInt32)), .val (.ref a1), .val (.ref a4), .val (.ref a8), .val (.int (1 : Int32)), .val (.int (1 : Int32)), .unset] [(.int (1 : Int32)), (.ref a1), (.int (nar .byte ((nar .char ((i5 &&& (127 : Int32)).toUInt32.toUInt16.toUInt32.toInt32)).toInt8.toInt32)))]))
    refine own_go (fun _ k => own_cald X22 hx hZ e22 Va1_21 (j := (1 : Int32)) (by decide) (by decide) (g := (mkF m 125 #[.val (.int i1), .val (.int i2), .val (.int i3), .val (.int i4), .val (.int i5), .val (.int ((i2 &&& (127 : Int32)).toUInt32.toUInt16.toUInt32.toInt32)), .val (.int ((i3 &&& (127 : Int32)).toUInt32.toUInt16.toUInt32.toInt32)), .val (.ref a1), .val (.ref a4), .val (.ref a8), .val (.int (1 : Int32)), .val (.int (1 : Int32)), .unset] [(.int (1 : Int32)), (.ref a1), (.int (nar .byte ((nar .char ((i5 &&& (127 : Int32)).toUInt32.toUInt16.toUInt32.toInt32)).toInt8.toInt32)))])) rfl (rest := [(.int (nar .byte ((nar .char ((i5 &&& (127 : Int32)).toUInt32.toUInt16.toUInt32.toInt32)).toInt8.toInt32)))]) rfl (hb hby at_125) k) ?_
    show own_Fin p.tables e below _ (T22.setTop (mkF m 126 #[.val (.int i1), .val (.int i2), .val (.int i3), .val (.int i4), .val (.int i5), .val (.int ((i2 &&& (127 : Int32)).toUInt32.toUInt16.toUInt32.toInt32)), .val (.int ((i3 &&& (127 : Int32)).toUInt32.toUInt16.toUInt32.toInt32)), .val (.ref a1), .val (.ref a4), .val (.ref a8), .val (.int (1 : Int32)), .val (.int (1 : Int32)), .unset] [(.int (nar .char ((i5 &&& (127 : Int32)).toUInt32.toUInt16.toUInt32.toInt32))), (.int (nar .byte ((nar .char ((i5 &&& (127 : Int32)).toUInt32.toUInt16.toUInt32.toInt32)).toInt8.toInt32)))]))
    refine own_go (fun _ k => XT.i2b X22.here hx rfl (hb hby at_126) rfl k) ?_
    show own_Fin p.tables e below _ (T22.setTop (mkF m 127 #[.val (.int i1), .val (.int i2), .val (.int i3), .val (.int i4), .val (.int i5), .val (.int ((i2 &&& (127 : Int32)).toUInt32.toUInt16.toUInt32.toInt32)), .val (.int ((i3 &&& (127 : Int32)).toUInt32.toUInt16.toUInt32.toInt32)), .val (.ref a1), .val (.ref a4), .val (.ref a8), .val (.int (1 : Int32)), .val (.int (1 : Int32)), .unset] [(.int ((nar .char ((i5 &&& (127 : Int32)).toUInt32.toUInt16.toUInt32.toInt32)).toInt8.toInt32)), (.int (nar .byte ((nar .char ((i5 &&& (127 : Int32)).toUInt32.toUInt16.toUInt32.toInt32)).toInt8.toInt32)))]))
    refine own_go (fun _ k => XS.icmpNo X22.here hx rfl (hb hby at_127) rfl (XT.ii_ne_f (by simp only [own_narb])) k) ?_
    show own_Fin p.tables e below _ (T22.setTop (mkF m 130 #[.val (.int i1), .val (.int i2), .val (.int i3), .val (.int i4), .val (.int i5), .val (.int ((i2 &&& (127 : Int32)).toUInt32.toUInt16.toUInt32.toInt32)), .val (.int ((i3 &&& (127 : Int32)).toUInt32.toUInt16.toUInt32.toInt32)), .val (.ref a1), .val (.ref a4), .val (.ref a8), .val (.int (1 : Int32)), .val (.int (1 : Int32)), .unset] []))
    refine own_go (fun _ k => XT.iconstV X22.here hx rfl (1 : Int32) (hb hby at_130) (by decide) k) ?_
    show own_Fin p.tables e below _ (T22.setTop (mkF m 131 #[.val (.int i1), .val (.int i2), .val (.int i3), .val (.int i4), .val (.int i5), .val (.int ((i2 &&& (127 : Int32)).toUInt32.toUInt16.toUInt32.toInt32)), .val (.int ((i3 &&& (127 : Int32)).toUInt32.toUInt16.toUInt32.toInt32)), .val (.ref a1), .val (.ref a4), .val (.ref a8), .val (.int (1 : Int32)), .val (.int (1 : Int32)), .unset] [(.int (1 : Int32))]))
    refine own_go (fun _ k => XS.goto X22.here hx rfl (pc0 := 131) (pc' := 135) rfl (hb hby at_131) (by decide) (by decide) k) ?_
    show own_Fin p.tables e below _ (T22.setTop (mkF m 135 #[.val (.int i1), .val (.int i2), .val (.int i3), .val (.int i4), .val (.int i5), .val (.int ((i2 &&& (127 : Int32)).toUInt32.toUInt16.toUInt32.toInt32)), .val (.int ((i3 &&& (127 : Int32)).toUInt32.toUInt16.toUInt32.toInt32)), .val (.ref a1), .val (.ref a4), .val (.ref a8), .val (.int (1 : Int32)), .val (.int (1 : Int32)), .unset] [(.int (1 : Int32))]))
    refine own_go (fun _ k => XS.istore X22.here hx rfl (hb hby at_135) rfl (l' := #[.val (.int i1), .val (.int i2), .val (.int i3), .val (.int i4), .val (.int i5), .val (.int ((i2 &&& (127 : Int32)).toUInt32.toUInt16.toUInt32.toInt32)), .val (.int ((i3 &&& (127 : Int32)).toUInt32.toUInt16.toUInt32.toInt32)), .val (.ref a1), .val (.ref a4), .val (.ref a8), .val (.int (1 : Int32)), .val (.int (1 : Int32)), .val (.int (1 : Int32))]) rfl k) ?_
    show own_Fin p.tables e below _ (T22.setTop (mkF m 137 #[.val (.int i1), .val (.int i2), .val (.int i3), .val (.int i4), .val (.int i5), .val (.int ((i2 &&& (127 : Int32)).toUInt32.toUInt16.toUInt32.toInt32)), .val (.int ((i3 &&& (127 : Int32)).toUInt32.toUInt16.toUInt32.toInt32)), .val (.ref a1), .val (.ref a4), .val (.ref a8), .val (.int (1 : Int32)), .val (.int (1 : Int32)), .val (.int (1 : Int32))] []))
    refine own_go (fun _ k => XS.iload X22.here hx rfl (hb hby at_137) rfl k) ?_
    show own_Fin p.tables e below _ (T22.setTop (mkF m 139 #[.val (.int i1), .val (.int i2), .val (.int i3), .val (.int i4), .val (.int i5), .val (.int ((i2 &&& (127 : Int32)).toUInt32.toUInt16.toUInt32.toInt32)), .val (.int ((i3 &&& (127 : Int32)).toUInt32.toUInt16.toUInt32.toInt32)), .val (.ref a1), .val (.ref a4), .val (.ref a8), .val (.int (1 : Int32)), .val (.int (1 : Int32)), .val (.int (1 : Int32))] [(.int (1 : Int32))]))
    refine own_go (fun _ k => XS.iload X22.here hx rfl (hb hby at_139) rfl k) ?_
    show own_Fin p.tables e below _ (T22.setTop (mkF m 141 #[.val (.int i1), .val (.int i2), .val (.int i3), .val (.int i4), .val (.int i5), .val (.int ((i2 &&& (127 : Int32)).toUInt32.toUInt16.toUInt32.toInt32)), .val (.int ((i3 &&& (127 : Int32)).toUInt32.toUInt16.toUInt32.toInt32)), .val (.ref a1), .val (.ref a4), .val (.ref a8), .val (.int (1 : Int32)), .val (.int (1 : Int32)), .val (.int (1 : Int32))] [(.int (1 : Int32)), (.int (1 : Int32))]))
    refine own_go (fun _ k => XS.iand X22.here hx rfl (hb hby at_141) rfl k) ?_
    show own_Fin p.tables e below _ (T22.setTop (mkF m 142 #[.val (.int i1), .val (.int i2), .val (.int i3), .val (.int i4), .val (.int i5), .val (.int ((i2 &&& (127 : Int32)).toUInt32.toUInt16.toUInt32.toInt32)), .val (.int ((i3 &&& (127 : Int32)).toUInt32.toUInt16.toUInt32.toInt32)), .val (.ref a1), .val (.ref a4), .val (.ref a8), .val (.int (1 : Int32)), .val (.int (1 : Int32)), .val (.int (1 : Int32))] [(.int ((1 : Int32) &&& (1 : Int32)))]))
    refine own_go (fun _ k => XS.iload X22.here hx rfl (hb hby at_142) rfl k) ?_
    show own_Fin p.tables e below _ (T22.setTop (mkF m 144 #[.val (.int i1), .val (.int i2), .val (.int i3), .val (.int i4), .val (.int i5), .val (.int ((i2 &&& (127 : Int32)).toUInt32.toUInt16.toUInt32.toInt32)), .val (.int ((i3 &&& (127 : Int32)).toUInt32.toUInt16.toUInt32.toInt32)), .val (.ref a1), .val (.ref a4), .val (.ref a8), .val (.int (1 : Int32)), .val (.int (1 : Int32)), .val (.int (1 : Int32))] [(.int (1 : Int32)), (.int ((1 : Int32) &&& (1 : Int32)))]))
    refine own_go (fun _ k => XS.iand X22.here hx rfl (hb hby at_144) rfl k) ?_
    show own_Fin p.tables e below _ (T22.setTop (mkF m 145 #[.val (.int i1), .val (.int i2), .val (.int i3), .val (.int i4), .val (.int i5), .val (.int ((i2 &&& (127 : Int32)).toUInt32.toUInt16.toUInt32.toInt32)), .val (.int ((i3 &&& (127 : Int32)).toUInt32.toUInt16.toUInt32.toInt32)), .val (.ref a1), .val (.ref a4), .val (.ref a8), .val (.int (1 : Int32)), .val (.int (1 : Int32)), .val (.int (1 : Int32))] [(.int (((1 : Int32) &&& (1 : Int32)) &&& (1 : Int32)))]))
    refine own_retN X22 hx hlk (t := .boolean) hret (by simp) (hb hby at_145) ?_ (by decide) (by decide)
    exact ⟨rfl, N22⟩
  · rw [q]
    show own_Fin p.tables e below _ (T8.setTop (mkF m 55 #[.val (.int i1), .val (.int i2), .val (.int i3), .val (.int i4), .val (.int i5), .val (.int ((i2 &&& (127 : Int32)).toUInt32.toUInt16.toUInt32.toInt32)), .val (.int ((i3 &&& (127 : Int32)).toUInt32.toUInt16.toUInt32.toInt32)), .val (.ref a1), .val (.ref a4), .unset, .unset, .unset, .unset] [(.int (2 : Int32)), (.ref a8), (.ref a8)]))
    obtain ⟨_, T23, L23, X23, ⟨rfl, M23, KK23, b23, kb23, Gb23, Gl23, q23, Ga23⟩, st23⟩ := own_callC X8 hx hZ hown rfl (hw _ (List.mem_of_getElem? (i := 33) rfl)) (hw _ (List.mem_of_getElem? (i := 34) rfl)) (hw _ (List.mem_of_getElem? (i := 32) rfl)) (hw _ (List.mem_of_getElem? (i := 35) rfl)) (by decide) (W := 1) (rmi l Z a0 hw [] a8 (2 : Int32) h8 n0 (Nat.le_trans Z0 K8.1) A8 Fa8_bytes Fa8_length z8 (by decide) (by decide)) (by decide) (by decide) e8 (g := (mkF m 55 #[.val (.int i1), .val (.int i2), .val (.int i3), .val (.int i4), .val (.int i5), .val (.int ((i2 &&& (127 : Int32)).toUInt32.toUInt16.toUInt32.toInt32)), .val (.int ((i3 &&& (127 : Int32)).toUInt32.toUInt16.toUInt32.toInt32)), .val (.ref a1), .val (.ref a4), .unset, .unset, .unset, .unset] [(.int (2 : Int32)), (.ref a8), (.ref a8)])) rfl (by rw [hml]; rfl) (argsL := [(.int (2 : Int32))]) (rest := [(.ref a8)]) rfl (lenOf pd4 rfl) rfl (by show 2 * 0 + _ ≤ _; exact Nat.le_of_eq rfl) (hb hby at_55) (by decide) (by decide)
    have N23 := Fr.app N7 M23
    have ne_a1_b23 : a1 ≠ b23 := own_lt_ne Va1_8.lt q23
    have ne_a4_b23 : a4 ≠ b23 := own_lt_ne Ea4_8.lt q23
    have ne_t7_b23 : t7 ≠ b23 := own_lt_ne Vt7_8.lt q23
    have ne_a8_b23 : a8 ≠ b23 := own_lt_ne A8.lt q23
    have O_23 := O_8.keep KK23 (allS z8 all0)
    have Va1_23 := Va1_8.keep KK23 (ninS ne_a1_a8 nin0)
    have Ea4_23 := Ea4_8.keep KK23
    have Fa4_coder_23 := Fa4_coder_8.keep KK23 (ninS ne_a4_a8 nin0)
    have Fa4_value_23 := Fa4_value_8.keep KK23 (ninS ne_a4_a8 nin0)
    have Vt7_23 := Vt7_8.keep KK23 (ninS ne_t7_a8 nin0)
    have Ea8_23 := A8.keep KK23
    have K23 := K8.trans KK23 (allS (Or.inr q8) all0)
    refine own_go st23 ?_
    show own_Fin p.tables e below _ (T23.setTop (mkF m 58 #[.val (.int i1), .val (.int i2), .val (.int i3), .val (.int i4), .val (.int i5), .val (.int ((i2 &&& (127 : Int32)).toUInt32.toUInt16.toUInt32.toInt32)), .val (.int ((i3 &&& (127 : Int32)).toUInt32.toUInt16.toUInt32.toInt32)), .val (.ref a1), .val (.ref a4), .unset, .unset, .unset, .unset] [(.ref a8)]))
    refine own_go (fun _ k => XS.astore X23.here hx rfl (hb hby at_58) rfl rfl (l' := #[.val (.int i1), .val (.int i2), .val (.int i3), .val (.int i4), .val (.int i5), .val (.int ((i2 &&& (127 : Int32)).toUInt32.toUInt16.toUInt32.toInt32)), .val (.int ((i3 &&& (127 : Int32)).toUInt32.toUInt16.toUInt32.toInt32)), .val (.ref a1), .val (.ref a4), .val (.ref a8), .unset, .unset, .unset]) rfl k) ?_
    show own_Fin p.tables e below _ (T23.setTop (mkF m 60 #[.val (.int i1), .val (.int i2), .val (.int i3), .val (.int i4), .val (.int i5), .val (.int ((i2 &&& (127 : Int32)).toUInt32.toUInt16.toUInt32.toInt32)), .val (.int ((i3 &&& (127 : Int32)).toUInt32.toUInt16.toUInt32.toInt32)), .val (.ref a1), .val (.ref a4), .val (.ref a8), .unset, .unset, .unset] []))
    refine own_go (fun _ k => XS.aload X23.here hx rfl (hb hby at_60) rfl rfl k) ?_
    show own_Fin p.tables e below _ (T23.setTop (mkF m 62 #[.val (.int i1), .val (.int i2), .val (.int i3), .val (.int i4), .val (.int i5), .val (.int ((i2 &&& (127 : Int32)).toUInt32.toUInt16.toUInt32.toInt32)), .val (.int ((i3 &&& (127 : Int32)).toUInt32.toUInt16.toUInt32.toInt32)), .val (.ref a1), .val (.ref a4), .val (.ref a8), .unset, .unset, .unset] [(.ref a8)]))
    refine own_go (fun _ k => XS.iload X23.here hx rfl (hb hby at_62) rfl k) ?_
    show own_Fin p.tables e below _ (T23.setTop (mkF m 64 #[.val (.int i1), .val (.int i2), .val (.int i3), .val (.int i4), .val (.int i5), .val (.int ((i2 &&& (127 : Int32)).toUInt32.toUInt16.toUInt32.toInt32)), .val (.int ((i3 &&& (127 : Int32)).toUInt32.toUInt16.toUInt32.toInt32)), .val (.ref a1), .val (.ref a4), .val (.ref a8), .unset, .unset, .unset] [(.int ((i2 &&& (127 : Int32)).toUInt32.toUInt16.toUInt32.toInt32)), (.ref a8)]))
    obtain ⟨_, T24, L24, X24, ⟨rfl, M24, KK24, Gb24, Gl24, Ga24⟩, st24⟩ := own_callV X23 hx hZ hown (hw _ (List.mem_of_getElem? (i := 39) rfl)) (hw _ (List.mem_of_getElem? (i := 40) rfl)) (hw _ (List.mem_of_getElem? (i := 42) rfl)) (hw _ (List.mem_of_getElem? (i := 41) rfl)) (hw _ (List.mem_of_getElem? (i := 32) rfl)) (hw _ (List.mem_of_getElem? (i := 43) rfl)) (by decide) (W := 0) (rman0 l Z a0 hw [] a8 ((i2 &&& (127 : Int32)).toUInt32.toUInt16.toUInt32.toInt32) T23.heap n0 (Nat.le_trans Z0 K23.1) b23 kb23  (2 : Int32) Ea8_23 Gb23 Gl23 Ga23 z8 (Nat.le_trans Z0 (Nat.le_trans K8.1 q23)) (by decide)) (by decide) (by decide) rfl Ea8_23 (g := (mkF m 64 #[.val (.int i1), .val (.int i2), .val (.int i3), .val (.int i4), .val (.int i5), .val (.int ((i2 &&& (127 : Int32)).toUInt32.toUInt16.toUInt32.toInt32)), .val (.int ((i3 &&& (127 : Int32)).toUInt32.toUInt16.toUInt32.toInt32)), .val (.ref a1), .val (.ref a4), .val (.ref a8), .unset, .unset, .unset] [(.int ((i2 &&& (127 : Int32)).toUInt32.toUInt16.toUInt32.toInt32)), (.ref a8)])) rfl (by rw [hml]; rfl) (argsL := [(.int ((i2 &&& (127 : Int32)).toUInt32.toUInt16.toUInt32.toInt32))]) (rest := []) rfl (lenOf pd5 rfl) rfl (by show 2 * 0 + _ ≤ _; exact Nat.le_of_eq rfl) (hb hby at_64) (by decide) (by decide)
    have N24 := Fr.app N23 M24
    have O_24 := O_23.keep KK24 (allS z8 (allS (Nat.le_trans Z0 (Nat.le_trans K8.1 q23)) all0))
    have Va1_24 := Va1_23.keep KK24 (ninS ne_a1_a8 (ninS ne_a1_b23 nin0))
    have Ea4_24 := Ea4_23.keep KK24
    have Fa4_coder_24 := Fa4_coder_23.keep KK24 (ninS ne_a4_a8 (ninS ne_a4_b23 nin0))
    have Fa4_value_24 := Fa4_value_23.keep KK24 (ninS ne_a4_a8 (ninS ne_a4_b23 nin0))
    have Vt7_24 := Vt7_23.keep KK24 (ninS ne_t7_a8 (ninS ne_t7_b23 nin0))
    have Ea8_24 := Ea8_23.keep KK24
    have K24 := K23.trans KK24 (allS (Or.inr q8) (allS (Or.inr (Nat.le_trans K8.1 q23)) all0))
    refine own_go st24 ?_
    show own_Fin p.tables e below _ (T24.setTop (mkF m 67 #[.val (.int i1), .val (.int i2), .val (.int i3), .val (.int i4), .val (.int i5), .val (.int ((i2 &&& (127 : Int32)).toUInt32.toUInt16.toUInt32.toInt32)), .val (.int ((i3 &&& (127 : Int32)).toUInt32.toUInt16.toUInt32.toInt32)), .val (.ref a1), .val (.ref a4), .val (.ref a8), .unset, .unset, .unset] []))
    refine own_go (fun _ k => XS.aload X24.here hx rfl (hb hby at_67) rfl rfl k) ?_
    show own_Fin p.tables e below _ (T24.setTop (mkF m 69 #[.val (.int i1), .val (.int i2), .val (.int i3), .val (.int i4), .val (.int i5), .val (.int ((i2 &&& (127 : Int32)).toUInt32.toUInt16.toUInt32.toInt32)), .val (.int ((i3 &&& (127 : Int32)).toUInt32.toUInt16.toUInt32.toInt32)), .val (.ref a1), .val (.ref a4), .val (.ref a8), .unset, .unset, .unset] [(.ref a8)]))
    obtain ⟨_, T25, L25, X25, ⟨rfl, M25, e25⟩, st25⟩ := own_callV X24 hx hZ hown (hw _ (List.mem_of_getElem? (i := 71) rfl)) (hw _ (List.mem_of_getElem? (i := 72) rfl)) (hw _ (List.mem_of_getElem? (i := 74) rfl)) (hw _ (List.mem_of_getElem? (i := 73) rfl)) (hw _ (List.mem_of_getElem? (i := 32) rfl)) (hw _ (List.mem_of_getElem? (i := 75) rfl)) (by decide) (W := 0) (rml1 l Z a0 hw [] a8 T24.heap n0 (Nat.le_trans Z0 K24.1) b23 kb23 (nar .byte (((i2 &&& (127 : Int32)).toUInt32.toUInt16.toUInt32.toInt32).toInt8.toInt32)) (2 : Int32) Ea8_24 Gb24 Gl24 Ga24 z8 (Nat.le_trans Z0 (Nat.le_trans K8.1 q23)) (by decide)) (by decide) (by decide) rfl Ea8_24 (g := (mkF m 69 #[.val (.int i1), .val (.int i2), .val (.int i3), .val (.int i4), .val (.int i5), .val (.int ((i2 &&& (127 : Int32)).toUInt32.toUInt16.toUInt32.toInt32)), .val (.int ((i3 &&& (127 : Int32)).toUInt32.toUInt16.toUInt32.toInt32)), .val (.ref a1), .val (.ref a4), .val (.ref a8), .unset, .unset, .unset] [(.ref a8)])) rfl (by rw [hml]; rfl) (argsL := []) (rest := []) rfl (lenOf pd6 rfl) rfl (by show 2 * 0 + _ ≤ _; exact Nat.le_of_eq rfl) (hb hby at_69) (by decide) (by decide)
    have N25 := Fr.app N24 M25
    refine own_go st25 ?_
    show own_Fin p.tables e below _ (T25.setTop (mkF m 72 #[.val (.int i1), .val (.int i2), .val (.int i3), .val (.int i4), .val (.int i5), .val (.int ((i2 &&& (127 : Int32)).toUInt32.toUInt16.toUInt32.toInt32)), .val (.int ((i3 &&& (127 : Int32)).toUInt32.toUInt16.toUInt32.toInt32)), .val (.ref a1), .val (.ref a4), .val (.ref a8), .unset, .unset, .unset] [(.int (nar .byte (nar .byte (((i2 &&& (127 : Int32)).toUInt32.toUInt16.toUInt32.toInt32).toInt8.toInt32))))]))
    refine own_go (fun _ k => XS.iload X25.here hx rfl (hb hby at_72) rfl k) ?_
    show own_Fin p.tables e below _ (T25.setTop (mkF m 74 #[.val (.int i1), .val (.int i2), .val (.int i3), .val (.int i4), .val (.int i5), .val (.int ((i2 &&& (127 : Int32)).toUInt32.toUInt16.toUInt32.toInt32)), .val (.int ((i3 &&& (127 : Int32)).toUInt32.toUInt16.toUInt32.toInt32)), .val (.ref a1), .val (.ref a4), .val (.ref a8), .unset, .unset, .unset] [(.int ((i2 &&& (127 : Int32)).toUInt32.toUInt16.toUInt32.toInt32)), (.int (nar .byte (nar .byte (((i2 &&& (127 : Int32)).toUInt32.toUInt16.toUInt32.toInt32).toInt8.toInt32))))]))
    refine own_go (fun _ k => XT.i2b X25.here hx rfl (hb hby at_74) rfl k) ?_
    show own_Fin p.tables e below _ (T25.setTop (mkF m 75 #[.val (.int i1), .val (.int i2), .val (.int i3), .val (.int i4), .val (.int i5), .val (.int ((i2 &&& (127 : Int32)).toUInt32.toUInt16.toUInt32.toInt32)), .val (.int ((i3 &&& (127 : Int32)).toUInt32.toUInt16.toUInt32.toInt32)), .val (.ref a1), .val (.ref a4), .val (.ref a8), .unset, .unset, .unset] [(.int (((i2 &&& (127 : Int32)).toUInt32.toUInt16.toUInt32.toInt32).toInt8.toInt32)), (.int (nar .byte (nar .byte (((i2 &&& (127 : Int32)).toUInt32.toUInt16.toUInt32.toInt32).toInt8.toInt32))))]))
    refine own_go (fun _ k => XS.icmpNo X25.here hx rfl (hb hby at_75) rfl (XT.ii_ne_f (by simp only [own_narb])) k) ?_
    show own_Fin p.tables e below _ (T25.setTop (mkF m 78 #[.val (.int i1), .val (.int i2), .val (.int i3), .val (.int i4), .val (.int i5), .val (.int ((i2 &&& (127 : Int32)).toUInt32.toUInt16.toUInt32.toInt32)), .val (.int ((i3 &&& (127 : Int32)).toUInt32.toUInt16.toUInt32.toInt32)), .val (.ref a1), .val (.ref a4), .val (.ref a8), .unset, .unset, .unset] []))
    refine own_go (fun _ k => XT.iconstV X25.here hx rfl (1 : Int32) (hb hby at_78) (by decide) k) ?_
    show own_Fin p.tables e below _ (T25.setTop (mkF m 79 #[.val (.int i1), .val (.int i2), .val (.int i3), .val (.int i4), .val (.int i5), .val (.int ((i2 &&& (127 : Int32)).toUInt32.toUInt16.toUInt32.toInt32)), .val (.int ((i3 &&& (127 : Int32)).toUInt32.toUInt16.toUInt32.toInt32)), .val (.ref a1), .val (.ref a4), .val (.ref a8), .unset, .unset, .unset] [(.int (1 : Int32))]))
    refine own_go (fun _ k => XS.goto X25.here hx rfl (pc0 := 79) (pc' := 83) rfl (hb hby at_79) (by decide) (by decide) k) ?_
    show own_Fin p.tables e below _ (T25.setTop (mkF m 83 #[.val (.int i1), .val (.int i2), .val (.int i3), .val (.int i4), .val (.int i5), .val (.int ((i2 &&& (127 : Int32)).toUInt32.toUInt16.toUInt32.toInt32)), .val (.int ((i3 &&& (127 : Int32)).toUInt32.toUInt16.toUInt32.toInt32)), .val (.ref a1), .val (.ref a4), .val (.ref a8), .unset, .unset, .unset] [(.int (1 : Int32))]))
    refine own_go (fun _ k => XS.istore X25.here hx rfl (hb hby at_83) rfl (l' := #[.val (.int i1), .val (.int i2), .val (.int i3), .val (.int i4), .val (.int i5), .val (.int ((i2 &&& (127 : Int32)).toUInt32.toUInt16.toUInt32.toInt32)), .val (.int ((i3 &&& (127 : Int32)).toUInt32.toUInt16.toUInt32.toInt32)), .val (.ref a1), .val (.ref a4), .val (.ref a8), .val (.int (1 : Int32)), .unset, .unset]) rfl k) ?_
    show own_Fin p.tables e below _ (T25.setTop (mkF m 85 #[.val (.int i1), .val (.int i2), .val (.int i3), .val (.int i4), .val (.int i5), .val (.int ((i2 &&& (127 : Int32)).toUInt32.toUInt16.toUInt32.toInt32)), .val (.int ((i3 &&& (127 : Int32)).toUInt32.toUInt16.toUInt32.toInt32)), .val (.ref a1), .val (.ref a4), .val (.ref a8), .val (.int (1 : Int32)), .unset, .unset] []))
    refine own_go (fun _ k => XS.aload X25.here hx rfl (hb hby at_85) rfl rfl k) ?_
    show own_Fin p.tables e below _ (T25.setTop (mkF m 87 #[.val (.int i1), .val (.int i2), .val (.int i3), .val (.int i4), .val (.int i5), .val (.int ((i2 &&& (127 : Int32)).toUInt32.toUInt16.toUInt32.toInt32)), .val (.int ((i3 &&& (127 : Int32)).toUInt32.toUInt16.toUInt32.toInt32)), .val (.ref a1), .val (.ref a4), .val (.ref a8), .val (.int (1 : Int32)), .unset, .unset] [(.ref a8)]))
    refine own_go (fun _ k => XS.iload X25.here hx rfl (hb hby at_87) rfl k) ?_
    show own_Fin p.tables e below _ (T25.setTop (mkF m 89 #[.val (.int i1), .val (.int i2), .val (.int i3), .val (.int i4), .val (.int i5), .val (.int ((i2 &&& (127 : Int32)).toUInt32.toUInt16.toUInt32.toInt32)), .val (.int ((i3 &&& (127 : Int32)).toUInt32.toUInt16.toUInt32.toInt32)), .val (.ref a1), .val (.ref a4), .val (.ref a8), .val (.int (1 : Int32)), .unset, .unset] [(.int ((i3 &&& (127 : Int32)).toUInt32.toUInt16.toUInt32.toInt32)), (.ref a8)]))
    obtain ⟨_, T26, L26, X26, ⟨rfl, M26, KK26, Gb26, Gl26, Ga26⟩, st26⟩ := own_callV X25 hx hZ hown (hw _ (List.mem_of_getElem? (i := 39) rfl)) (hw _ (List.mem_of_getElem? (i := 40) rfl)) (hw _ (List.mem_of_getElem? (i := 42) rfl)) (hw _ (List.mem_of_getElem? (i := 41) rfl)) (hw _ (List.mem_of_getElem? (i := 32) rfl)) (hw _ (List.mem_of_getElem? (i := 43) rfl)) (by decide) (W := 0) (rman1 l Z a0 hw [] a8 ((i3 &&& (127 : Int32)).toUInt32.toUInt16.toUInt32.toInt32) T24.heap n0 (Nat.le_trans Z0 K24.1) b23 kb23 (nar .byte (((i2 &&& (127 : Int32)).toUInt32.toUInt16.toUInt32.toInt32).toInt8.toInt32)) (2 : Int32) Ea8_24 Gb24 Gl24 Ga24 z8 (Nat.le_trans Z0 (Nat.le_trans K8.1 q23)) (by decide)) (by decide) (by decide) e25 Ea8_24 (g := (mkF m 89 #[.val (.int i1), .val (.int i2), .val (.int i3), .val (.int i4), .val (.int i5), .val (.int ((i2 &&& (127 : Int32)).toUInt32.toUInt16.toUInt32.toInt32)), .val (.int ((i3 &&& (127 : Int32)).toUInt32.toUInt16.toUInt32.toInt32)), .val (.ref a1), .val (.ref a4), .val (.ref a8), .val (.int (1 : Int32)), .unset, .unset] [(.int ((i3 &&& (127 : Int32)).toUInt32.toUInt16.toUInt32.toInt32)), (.ref a8)])) rfl (by rw [hml]; rfl) (argsL := [(.int ((i3 &&& (127 : Int32)).toUInt32.toUInt16.toUInt32.toInt32))]) (rest := []) rfl (lenOf pd5 rfl) rfl (by show 2 * 0 + _ ≤ _; exact Nat.le_of_eq rfl) (hb hby at_89) (by decide) (by decide)
    have N26 := Fr.app N25 M26
    have O_26 := O_24.keep KK26 (allS z8 (allS (Nat.le_trans Z0 (Nat.le_trans K8.1 q23)) all0))
    have Va1_26 := Va1_24.keep KK26 (ninS ne_a1_a8 (ninS ne_a1_b23 nin0))
    have Ea4_26 := Ea4_24.keep KK26
    have Fa4_coder_26 := Fa4_coder_24.keep KK26 (ninS ne_a4_a8 (ninS ne_a4_b23 nin0))
    have Fa4_value_26 := Fa4_value_24.keep KK26 (ninS ne_a4_a8 (ninS ne_a4_b23 nin0))
    have Vt7_26 := Vt7_24.keep KK26 (ninS ne_t7_a8 (ninS ne_t7_b23 nin0))
    have Ea8_26 := Ea8_24.keep KK26
    have K26 := K24.trans KK26 (allS (Or.inr q8) (allS (Or.inr (Nat.le_trans K8.1 q23)) all0))
    refine own_go st26 ?_
    show own_Fin p.tables e below _ (T26.setTop (mkF m 92 #[.val (.int i1), .val (.int i2), .val (.int i3), .val (.int i4), .val (.int i5), .val (.int ((i2 &&& (127 : Int32)).toUInt32.toUInt16.toUInt32.toInt32)), .val (.int ((i3 &&& (127 : Int32)).toUInt32.toUInt16.toUInt32.toInt32)), .val (.ref a1), .val (.ref a4), .val (.ref a8), .val (.int (1 : Int32)), .unset, .unset] []))
    refine own_go (fun _ k => XS.aload X26.here hx rfl (hb hby at_92) rfl rfl k) ?_
    show own_Fin p.tables e below _ (T26.setTop (mkF m 94 #[.val (.int i1), .val (.int i2), .val (.int i3), .val (.int i4), .val (.int i5), .val (.int ((i2 &&& (127 : Int32)).toUInt32.toUInt16.toUInt32.toInt32)), .val (.int ((i3 &&& (127 : Int32)).toUInt32.toUInt16.toUInt32.toInt32)), .val (.ref a1), .val (.ref a4), .val (.ref a8), .val (.int (1 : Int32)), .unset, .unset] [(.ref a8)]))
    obtain ⟨_, T27, L27, X27, ⟨rfl, M27, e27⟩, st27⟩ := own_callV X26 hx hZ hown (hw _ (List.mem_of_getElem? (i := 71) rfl)) (hw _ (List.mem_of_getElem? (i := 72) rfl)) (hw _ (List.mem_of_getElem? (i := 74) rfl)) (hw _ (List.mem_of_getElem? (i := 73) rfl)) (hw _ (List.mem_of_getElem? (i := 32) rfl)) (hw _ (List.mem_of_getElem? (i := 75) rfl)) (by decide) (W := 0) (rml2 l Z a0 hw [] a8 T26.heap n0 (Nat.le_trans Z0 K26.1) b23 kb23 (nar .byte (((i2 &&& (127 : Int32)).toUInt32.toUInt16.toUInt32.toInt32).toInt8.toInt32)) (nar .byte (((i3 &&& (127 : Int32)).toUInt32.toUInt16.toUInt32.toInt32).toInt8.toInt32)) (2 : Int32) Ea8_26 Gb26 Gl26 Ga26 z8 (Nat.le_trans Z0 (Nat.le_trans K8.1 q23)) (by decide)) (by decide) (by decide) rfl Ea8_26 (g := (mkF m 94 #[.val (.int i1), .val (.int i2), .val (.int i3), .val (.int i4), .val (.int i5), .val (.int ((i2 &&& (127 : Int32)).toUInt32.toUInt16.toUInt32.toInt32)), .val (.int ((i3 &&& (127 : Int32)).toUInt32.toUInt16.toUInt32.toInt32)), .val (.ref a1), .val (.ref a4), .val (.ref a8), .val (.int (1 : Int32)), .unset, .unset] [(.ref a8)])) rfl (by rw [hml]; rfl) (argsL := []) (rest := []) rfl (lenOf pd6 rfl) rfl (by show 2 * 0 + _ ≤ _; exact Nat.le_of_eq rfl) (hb hby at_94) (by decide) (by decide)
    have N27 := Fr.app N26 M27
    refine own_go st27 ?_
    show own_Fin p.tables e below _ (T27.setTop (mkF m 97 #[.val (.int i1), .val (.int i2), .val (.int i3), .val (.int i4), .val (.int i5), .val (.int ((i2 &&& (127 : Int32)).toUInt32.toUInt16.toUInt32.toInt32)), .val (.int ((i3 &&& (127 : Int32)).toUInt32.toUInt16.toUInt32.toInt32)), .val (.ref a1), .val (.ref a4), .val (.ref a8), .val (.int (1 : Int32)), .unset, .unset] [(.int (nar .byte (nar .byte (((i3 &&& (127 : Int32)).toUInt32.toUInt16.toUInt32.toInt32).toInt8.toInt32))))]))
    refine own_go (fun _ k => XS.iload X27.here hx rfl (hb hby at_97) rfl k) ?_
    show own_Fin p.tables e below _ (T27.setTop (mkF m 99 #[.val (.int i1), .val (.int i2), .val (.int i3), .val (.int i4), .val (.int i5), .val (.int ((i2 &&& (127 : Int32)).toUInt32.toUInt16.toUInt32.toInt32)), .val (.int ((i3 &&& (127 : Int32)).toUInt32.toUInt16.toUInt32.toInt32)), .val (.ref a1), .val (.ref a4), .val (.ref a8), .val (.int (1 : Int32)), .unset, .unset] [(.int ((i3 &&& (127 : Int32)).toUInt32.toUInt16.toUInt32.toInt32)), (.int (nar .byte (nar .byte (((i3 &&& (127 : Int32)).toUInt32.toUInt16.toUInt32.toInt32).toInt8.toInt32))))]))
    refine own_go (fun _ k => XT.i2b X27.here hx rfl (hb hby at_99) rfl k) ?_
    show own_Fin p.tables e below _ (T27.setTop (mkF m 100 #[.val (.int i1), .val (.int i2), .val (.int i3), .val (.int i4), .val (.int i5), .val (.int ((i2 &&& (127 : Int32)).toUInt32.toUInt16.toUInt32.toInt32)), .val (.int ((i3 &&& (127 : Int32)).toUInt32.toUInt16.toUInt32.toInt32)), .val (.ref a1), .val (.ref a4), .val (.ref a8), .val (.int (1 : Int32)), .unset, .unset] [(.int (((i3 &&& (127 : Int32)).toUInt32.toUInt16.toUInt32.toInt32).toInt8.toInt32)), (.int (nar .byte (nar .byte (((i3 &&& (127 : Int32)).toUInt32.toUInt16.toUInt32.toInt32).toInt8.toInt32))))]))
    refine own_go (fun _ k => XS.icmpNo X27.here hx rfl (hb hby at_100) rfl (XT.ii_ne_f (by simp only [own_narb])) k) ?_
    show own_Fin p.tables e below _ (T27.setTop (mkF m 103 #[.val (.int i1), .val (.int i2), .val (.int i3), .val (.int i4), .val (.int i5), .val (.int ((i2 &&& (127 : Int32)).toUInt32.toUInt16.toUInt32.toInt32)), .val (.int ((i3 &&& (127 : Int32)).toUInt32.toUInt16.toUInt32.toInt32)), .val (.ref a1), .val (.ref a4), .val (.ref a8), .val (.int (1 : Int32)), .unset, .unset] []))
    refine own_go (fun _ k => XT.iconstV X27.here hx rfl (1 : Int32) (hb hby at_103) (by decide) k) ?_
    show own_Fin p.tables e below _ (T27.setTop (mkF m 104 #[.val (.int i1), .val (.int i2), .val (.int i3), .val (.int i4), .val (.int i5), .val (.int ((i2 &&& (127 : Int32)).toUInt32.toUInt16.toUInt32.toInt32)), .val (.int ((i3 &&& (127 : Int32)).toUInt32.toUInt16.toUInt32.toInt32)), .val (.ref a1), .val (.ref a4), .val (.ref a8), .val (.int (1 : Int32)), .unset, .unset] [(.int (1 : Int32))]))
    refine own_go (fun _ k => XS.goto X27.here hx rfl (pc0 := 104) (pc' := 108) rfl (hb hby at_104) (by decide) (by decide) k) ?_
    show own_Fin p.tables e below _ (T27.setTop (mkF m 108 #[.val (.int i1), .val (.int i2), .val (.int i3), .val (.int i4), .val (.int i5), .val (.int ((i2 &&& (127 : Int32)).toUInt32.toUInt16.toUInt32.toInt32)), .val (.int ((i3 &&& (127 : Int32)).toUInt32.toUInt16.toUInt32.toInt32)), .val (.ref a1), .val (.ref a4), .val (.ref a8), .val (.int (1 : Int32)), .unset, .unset] [(.int (1 : Int32))]))
    refine own_go (fun _ k => XS.istore X27.here hx rfl (hb hby at_108) rfl (l' := #[.val (.int i1), .val (.int i2), .val (.int i3), .val (.int i4), .val (.int i5), .val (.int ((i2 &&& (127 : Int32)).toUInt32.toUInt16.toUInt32.toInt32)), .val (.int ((i3 &&& (127 : Int32)).toUInt32.toUInt16.toUInt32.toInt32)), .val (.ref a1), .val (.ref a4), .val (.ref a8), .val (.int (1 : Int32)), .val (.int (1 : Int32)), .unset]) rfl k) ?_
    show own_Fin p.tables e below _ (T27.setTop (mkF m 110 #[.val (.int i1), .val (.int i2), .val (.int i3), .val (.int i4), .val (.int i5), .val (.int ((i2 &&& (127 : Int32)).toUInt32.toUInt16.toUInt32.toInt32)), .val (.int ((i3 &&& (127 : Int32)).toUInt32.toUInt16.toUInt32.toInt32)), .val (.ref a1), .val (.ref a4), .val (.ref a8), .val (.int (1 : Int32)), .val (.int (1 : Int32)), .unset] []))
    refine own_go (fun _ k => XS.aload X27.here hx rfl (hb hby at_110) rfl rfl k) ?_
    show own_Fin p.tables e below _ (T27.setTop (mkF m 112 #[.val (.int i1), .val (.int i2), .val (.int i3), .val (.int i4), .val (.int i5), .val (.int ((i2 &&& (127 : Int32)).toUInt32.toUInt16.toUInt32.toInt32)), .val (.int ((i3 &&& (127 : Int32)).toUInt32.toUInt16.toUInt32.toInt32)), .val (.ref a1), .val (.ref a4), .val (.ref a8), .val (.int (1 : Int32)), .val (.int (1 : Int32)), .unset] [(.ref a8)]))
    refine own_go (fun _ k => XS.aload X27.here hx rfl (hb hby at_112) rfl rfl k) ?_
    show own_Fin p.tables e below _ (T27.setTop (mkF m 114 #[.val (.int i1), .val (.int i2), .val (.int i3), .val (.int i4), .val (.int i5), .val (.int ((i2 &&& (127 : Int32)).toUInt32.toUInt16.toUInt32.toInt32)), .val (.int ((i3 &&& (127 : Int32)).toUInt32.toUInt16.toUInt32.toInt32)), .val (.ref a1), .val (.ref a4), .val (.ref a8), .val (.int (1 : Int32)), .val (.int (1 : Int32)), .unset] [(.ref a4), (.ref a8)]))
    obtain ⟨_, T28, L28, X28, ⟨rfl, M28, KK28, b28, kb28, Gb28, Gl28, q28, Ga28⟩, st28⟩ := own_callV X27 hx hZ hown (hw _ (List.mem_of_getElem? (i := 76) rfl)) (hw _ (List.mem_of_getElem? (i := 77) rfl)) (hw _ (List.mem_of_getElem? (i := 79) rfl)) (hw _ (List.mem_of_getElem? (i := 78) rfl)) (hw _ (List.mem_of_getElem? (i := 32) rfl)) (hw _ (List.mem_of_getElem? (i := 80) rfl)) (by decide) (W := 0) (rmx2 l Z a0 hw [] a8 a4 T26.heap n0 (Nat.le_trans Z0 K26.1) b23 kb23 (nar .byte (((i2 &&& (127 : Int32)).toUInt32.toUInt16.toUInt32.toInt32).toInt8.toInt32)) (nar .byte (((i3 &&& (127 : Int32)).toUInt32.toUInt16.toUInt32.toInt32).toInt8.toInt32))  Ea8_26 Gb26 Gl26 Ga26 z8 (Nat.le_trans Z0 (Nat.le_trans K8.1 q23))  t7 kb7 ((nar .char ((i4 &&& (127 : Int32)).toUInt32.toUInt16.toUInt32.toInt32)).toInt8.toInt32) ((nar .char ((i5 &&& (127 : Int32)).toUInt32.toUInt16.toUInt32.toInt32)).toInt8.toInt32) Ea4_26 Fa4_value_26 Fa4_coder_26 Vt7_26 ne_t7_b23 ic SC hz O_26 fm SF rf) (by decide) (by decide) e27 Ea8_26 (g := (mkF m 114 #[.val (.int i1), .val (.int i2), .val (.int i3), .val (.int i4), .val (.int i5), .val (.int ((i2 &&& (127 : Int32)).toUInt32.toUInt16.toUInt32.toInt32)), .val (.int ((i3 &&& (127 : Int32)).toUInt32.toUInt16.toUInt32.toInt32)), .val (.ref a1), .val (.ref a4), .val (.ref a8), .val (.int (1 : Int32)), .val (.int (1 : Int32)), .unset] [(.ref a4), (.ref a8)])) rfl (by rw [hml]; rfl) (argsL := [(.ref a4)]) (rest := []) rfl (lenOf pd16 rfl) rfl (by show 2 * 0 + _ ≤ _; exact Nat.le_of_eq rfl) (hb hby at_114) (by decide) (by decide)
    have N28 := Fr.app N27 M28
    have ne_a1_b28 : a1 ≠ b28 := own_lt_ne Va1_26.lt q28
    have ne_a4_b28 : a4 ≠ b28 := own_lt_ne Ea4_26.lt q28
    have ne_t7_b28 : t7 ≠ b28 := own_lt_ne Vt7_26.lt q28
    have ne_a8_b28 : a8 ≠ b28 := own_lt_ne Ea8_26.lt q28
    have ne_b23_b28 : b23 ≠ b28 := own_lt_ne Ga26.lt q28
    have O_28 := O_26.keep KK28 (allS z8 all0)
    have Va1_28 := Va1_26.keep KK28 (ninS ne_a1_a8 nin0)
    have Ea4_28 := Ea4_26.keep KK28
    have Fa4_coder_28 := Fa4_coder_26.keep KK28 (ninS ne_a4_a8 nin0)
    have Fa4_value_28 := Fa4_value_26.keep KK28 (ninS ne_a4_a8 nin0)
    have Vt7_28 := Vt7_26.keep KK28 (ninS ne_t7_a8 nin0)
    have Ea8_28 := Ea8_26.keep KK28
    have Vb23_28 := Ga26.keep KK28 (ninS (Ne.symm ne_a8_b23) nin0)
    have K28 := K26.trans KK28 (allS (Or.inr q8) all0)
    refine own_go st28 ?_
    show own_Fin p.tables e below _ (T28.setTop (mkF m 117 #[.val (.int i1), .val (.int i2), .val (.int i3), .val (.int i4), .val (.int i5), .val (.int ((i2 &&& (127 : Int32)).toUInt32.toUInt16.toUInt32.toInt32)), .val (.int ((i3 &&& (127 : Int32)).toUInt32.toUInt16.toUInt32.toInt32)), .val (.ref a1), .val (.ref a4), .val (.ref a8), .val (.int (1 : Int32)), .val (.int (1 : Int32)), .unset] []))
    refine own_go (fun _ k => XS.aload X28.here hx rfl (hb hby at_117) rfl rfl k) ?_
    show own_Fin p.tables e below _ (T28.setTop (mkF m 119 #[.val (.int i1), .val (.int i2), .val (.int i3), .val (.int i4), .val (.int i5), .val (.int ((i2 &&& (127 : Int32)).toUInt32.toUInt16.toUInt32.toInt32)), .val (.int ((i3 &&& (127 : Int32)).toUInt32.toUInt16.toUInt32.toInt32)), .val (.ref a1), .val (.ref a4), .val (.ref a8), .val (.int (1 : Int32)), .val (.int (1 : Int32)), .unset] [(.ref a8)]))
    obtain ⟨_, T29, L29, X29, ⟨rfl, M29, e29⟩, st29⟩ := own_callV X28 hx hZ hown (hw _ (List.mem_of_getElem? (i := 71) rfl)) (hw _ (List.mem_of_getElem? (i := 72) rfl)) (hw _ (List.mem_of_getElem? (i := 74) rfl)) (hw _ (List.mem_of_getElem? (i := 73) rfl)) (hw _ (List.mem_of_getElem? (i := 32) rfl)) (hw _ (List.mem_of_getElem? (i := 75) rfl)) (by decide) (W := 0) (rml4 l Z a0 hw [] a8 T28.heap n0 (Nat.le_trans Z0 K28.1) b28 kb28 (nar .byte (((i2 &&& (127 : Int32)).toUInt32.toUInt16.toUInt32.toInt32).toInt8.toInt32)) (nar .byte (((i3 &&& (127 : Int32)).toUInt32.toUInt16.toUInt32.toInt32).toInt8.toInt32)) ((nar .char ((i4 &&& (127 : Int32)).toUInt32.toUInt16.toUInt32.toInt32)).toInt8.toInt32) ((nar .char ((i5 &&& (127 : Int32)).toUInt32.toUInt16.toUInt32.toInt32)).toInt8.toInt32) (4 : Int32) Ea8_28 Gb28 Gl28 Ga28 z8 (Nat.le_trans Z0 (Nat.le_trans K26.1 q28)) (by decide)) (by decide) (by decide) rfl Ea8_28 (g := (mkF m 119 #[.val (.int i1), .val (.int i2), .val (.int i3), .val (.int i4), .val (.int i5), .val (.int ((i2 &&& (127 : Int32)).toUInt32.toUInt16.toUInt32.toInt32)), .val (.int ((i3 &&& (127 : Int32)).toUInt32.toUInt16.toUInt32.toInt32)), .val (.ref a1), .val (.ref a4), .val (.ref a8), .val (.int (1 : Int32)), .val (.int (1 : Int32)), .unset] [(.ref a8)])) rfl (by rw [hml]; rfl) (argsL := []) (rest := []) rfl (lenOf pd6 rfl) rfl (by show 2 * 0 + _ ≤ _; exact Nat.le_of_eq rfl) (hb hby at_119) (by decide) (by decide)
    have N29 := Fr.app N28 M29
    refine own_go st29 ?_
    show own_Fin p.tables e below _ (T29.setTop (mkF m 122 #[.val (.int i1), .val (.int i2), .val (.int i3), .val (.int i4), .val (.int i5), .val (.int ((i2 &&& (127 : Int32)).toUInt32.toUInt16.toUInt32.toInt32)), .val (.int ((i3 &&& (127 : Int32)).toUInt32.toUInt16.toUInt32.toInt32)), .val (.ref a1), .val (.ref a4), .val (.ref a8), .val (.int (1 : Int32)), .val (.int (1 : Int32)), .unset] [(.int (nar .byte ((nar .char ((i5 &&& (127 : Int32)).toUInt32.toUInt16.toUInt32.toInt32)).toInt8.toInt32)))]))
    refine own_go (fun _ k => XS.aload X29.here hx rfl (hb hby at_122) rfl rfl k) ?_
    show own_Fin p.tables e below _ (T29.setTop (mkF m 124 #[.val (.int i1), .val (.int i2), .val (.int i3), .val (.int i4), .val (.int i5), .val (.int ((i2 &&& (127 : Int32)).toUInt32.toUInt16.toUInt32.toInt32)), .val (.int ((i3 &&& (127 : Int32)).toUInt32.toUInt16.toUInt32.toInt32)), .val (.ref a1), .val (.ref a4), .val (.ref a8), .val (.int (1 : Int32)), .val (.int (1 : Int32)), .unset] [(.ref a1), (.int (nar .byte ((nar .char ((i5 &&& (127 : Int32)).toUInt32.toUInt16.toUInt32.toInt32)).toInt8.toInt32)))]))
    refine own_go (fun _ k => XT.iconstV X29.here hx rfl (1 : Int32) (hb hby at_124) (by decide) k) ?_
    show own_Fin p.tables e below _ (T29.setTop (mkF m 125 #[.val (.int i1), .val (.int i2), .val (.int i3), .val (.int i4), .val (.int i5), .val (.int ((i2 &&& (127 : Int32)).toUInt32.toUInt16.toUInt32.toInt32)), .val (.int ((i3 &&& (127 : Int32)).toUInt32.toUInt16.toUInt32.toInt32)), .val (.ref a1), .val (.ref a4), .val (.ref a8), .val (.int (1 : Int32)), .val (.int (1 : Int32)), .unset] [(.int (1 : Int32)), (.ref a1), (.int (nar .byte ((nar .char ((i5 &&& (127 : Int32)).toUInt32.toUInt16.toUInt32.toInt32)).toInt8.toInt32)))]))
    refine own_go (fun _ k => own_cald X29 hx hZ e29 Va1_28 (j := (1 : Int32)) (by decide) (by decide) (g := (mkF m 125 #[.val (.int i1), .val (.int i2), .val (.int i3), .val (.int i4), .val (.int i5), .val (.int ((i2 &&& (127 : Int32)).toUInt32.toUInt16.toUInt32.toInt32)), .val (.int ((i3 &&& (127 : Int32)).toUInt32.toUInt16.toUInt32.toInt32)), .val (.ref a1), .val (.ref a4), .val (.ref a8), .val (.int (1 : Int32)), .val (.int (1 : Int32)), .unset] [(.int (1 : Int32)), (.ref a1), (.int (nar .byte ((nar .char ((i5 &&& (127 : Int32)).toUInt32.toUInt16.toUInt32.toInt32)).toInt8.toInt32)))])) rfl (rest := [(.int (nar .byte ((nar .char ((i5 &&& (127 : Int32)).toUInt32.toUInt16.toUInt32.toInt32)).toInt8.toInt32)))]) rfl (hb hby at_125) k) ?_
    show own_Fin p.tables e below _ (T29.setTop (mkF m 126 #[.val (.int i1), .val (.int i2), .val (.int i3), .val (.int i4), .val (.int i5), .val (.int ((i2 &&& (127 : Int32)).toUInt32.toUInt16.toUInt32.toInt32)), .val (.int ((i3 &&& (127 : Int32)).toUInt32.toUInt16.toUInt32.toInt32)), .val (.ref a1), .val (.ref a4), .val (.ref a8), .val (.int (1 : Int32)), .val (.int (1 : Int32)), .unset] [(.int (nar .char ((i5 &&& (127 : Int32)).toUInt32.toUInt16.toUInt32.toInt32))), (.int (nar .byte ((nar .char ((i5 &&& (127 : Int32)).toUInt32.toUInt16.toUInt32.toInt32)).toInt8.toInt32)))]))
    refine own_go (fun _ k => XT.i2b X29.here hx rfl (hb hby at_126) rfl k) ?_
    show own_Fin p.tables e below _ (T29.setTop (mkF m 127 #[.val (.int i1), .val (.int i2), .val (.int i3), .val (.int i4), .val (.int i5), .val (.int ((i2 &&& (127 : Int32)).toUInt32.toUInt16.toUInt32.toInt32)), .val (.int ((i3 &&& (127 : Int32)).toUInt32.toUInt16.toUInt32.toInt32)), .val (.ref a1), .val (.ref a4), .val (.ref a8), .val (.int (1 : Int32)), .val (.int (1 : Int32)), .unset] [(.int ((nar .char ((i5 &&& (127 : Int32)).toUInt32.toUInt16.toUInt32.toInt32)).toInt8.toInt32)), (.int (nar .byte ((nar .char ((i5 &&& (127 : Int32)).toUInt32.toUInt16.toUInt32.toInt32)).toInt8.toInt32)))]))
    refine own_go (fun _ k => XS.icmpNo X29.here hx rfl (hb hby at_127) rfl (XT.ii_ne_f (by simp only [own_narb])) k) ?_
    show own_Fin p.tables e below _ (T29.setTop (mkF m 130 #[.val (.int i1), .val (.int i2), .val (.int i3), .val (.int i4), .val (.int i5), .val (.int ((i2 &&& (127 : Int32)).toUInt32.toUInt16.toUInt32.toInt32)), .val (.int ((i3 &&& (127 : Int32)).toUInt32.toUInt16.toUInt32.toInt32)), .val (.ref a1), .val (.ref a4), .val (.ref a8), .val (.int (1 : Int32)), .val (.int (1 : Int32)), .unset] []))
    refine own_go (fun _ k => XT.iconstV X29.here hx rfl (1 : Int32) (hb hby at_130) (by decide) k) ?_
    show own_Fin p.tables e below _ (T29.setTop (mkF m 131 #[.val (.int i1), .val (.int i2), .val (.int i3), .val (.int i4), .val (.int i5), .val (.int ((i2 &&& (127 : Int32)).toUInt32.toUInt16.toUInt32.toInt32)), .val (.int ((i3 &&& (127 : Int32)).toUInt32.toUInt16.toUInt32.toInt32)), .val (.ref a1), .val (.ref a4), .val (.ref a8), .val (.int (1 : Int32)), .val (.int (1 : Int32)), .unset] [(.int (1 : Int32))]))
    refine own_go (fun _ k => XS.goto X29.here hx rfl (pc0 := 131) (pc' := 135) rfl (hb hby at_131) (by decide) (by decide) k) ?_
    show own_Fin p.tables e below _ (T29.setTop (mkF m 135 #[.val (.int i1), .val (.int i2), .val (.int i3), .val (.int i4), .val (.int i5), .val (.int ((i2 &&& (127 : Int32)).toUInt32.toUInt16.toUInt32.toInt32)), .val (.int ((i3 &&& (127 : Int32)).toUInt32.toUInt16.toUInt32.toInt32)), .val (.ref a1), .val (.ref a4), .val (.ref a8), .val (.int (1 : Int32)), .val (.int (1 : Int32)), .unset] [(.int (1 : Int32))]))
    refine own_go (fun _ k => XS.istore X29.here hx rfl (hb hby at_135) rfl (l' := #[.val (.int i1), .val (.int i2), .val (.int i3), .val (.int i4), .val (.int i5), .val (.int ((i2 &&& (127 : Int32)).toUInt32.toUInt16.toUInt32.toInt32)), .val (.int ((i3 &&& (127 : Int32)).toUInt32.toUInt16.toUInt32.toInt32)), .val (.ref a1), .val (.ref a4), .val (.ref a8), .val (.int (1 : Int32)), .val (.int (1 : Int32)), .val (.int (1 : Int32))]) rfl k) ?_
    show own_Fin p.tables e below _ (T29.setTop (mkF m 137 #[.val (.int i1), .val (.int i2), .val (.int i3), .val (.int i4), .val (.int i5), .val (.int ((i2 &&& (127 : Int32)).toUInt32.toUInt16.toUInt32.toInt32)), .val (.int ((i3 &&& (127 : Int32)).toUInt32.toUInt16.toUInt32.toInt32)), .val (.ref a1), .val (.ref a4), .val (.ref a8), .val (.int (1 : Int32)), .val (.int (1 : Int32)), .val (.int (1 : Int32))] []))
    refine own_go (fun _ k => XS.iload X29.here hx rfl (hb hby at_137) rfl k) ?_
    show own_Fin p.tables e below _ (T29.setTop (mkF m 139 #[.val (.int i1), .val (.int i2), .val (.int i3), .val (.int i4), .val (.int i5), .val (.int ((i2 &&& (127 : Int32)).toUInt32.toUInt16.toUInt32.toInt32)), .val (.int ((i3 &&& (127 : Int32)).toUInt32.toUInt16.toUInt32.toInt32)), .val (.ref a1), .val (.ref a4), .val (.ref a8), .val (.int (1 : Int32)), .val (.int (1 : Int32)), .val (.int (1 : Int32))] [(.int (1 : Int32))]))
    refine own_go (fun _ k => XS.iload X29.here hx rfl (hb hby at_139) rfl k) ?_
    show own_Fin p.tables e below _ (T29.setTop (mkF m 141 #[.val (.int i1), .val (.int i2), .val (.int i3), .val (.int i4), .val (.int i5), .val (.int ((i2 &&& (127 : Int32)).toUInt32.toUInt16.toUInt32.toInt32)), .val (.int ((i3 &&& (127 : Int32)).toUInt32.toUInt16.toUInt32.toInt32)), .val (.ref a1), .val (.ref a4), .val (.ref a8), .val (.int (1 : Int32)), .val (.int (1 : Int32)), .val (.int (1 : Int32))] [(.int (1 : Int32)), (.int (1 : Int32))]))
    refine own_go (fun _ k => XS.iand X29.here hx rfl (hb hby at_141) rfl k) ?_
    show own_Fin p.tables e below _ (T29.setTop (mkF m 142 #[.val (.int i1), .val (.int i2), .val (.int i3), .val (.int i4), .val (.int i5), .val (.int ((i2 &&& (127 : Int32)).toUInt32.toUInt16.toUInt32.toInt32)), .val (.int ((i3 &&& (127 : Int32)).toUInt32.toUInt16.toUInt32.toInt32)), .val (.ref a1), .val (.ref a4), .val (.ref a8), .val (.int (1 : Int32)), .val (.int (1 : Int32)), .val (.int (1 : Int32))] [(.int ((1 : Int32) &&& (1 : Int32)))]))
    refine own_go (fun _ k => XS.iload X29.here hx rfl (hb hby at_142) rfl k) ?_
    show own_Fin p.tables e below _ (T29.setTop (mkF m 144 #[.val (.int i1), .val (.int i2), .val (.int i3), .val (.int i4), .val (.int i5), .val (.int ((i2 &&& (127 : Int32)).toUInt32.toUInt16.toUInt32.toInt32)), .val (.int ((i3 &&& (127 : Int32)).toUInt32.toUInt16.toUInt32.toInt32)), .val (.ref a1), .val (.ref a4), .val (.ref a8), .val (.int (1 : Int32)), .val (.int (1 : Int32)), .val (.int (1 : Int32))] [(.int (1 : Int32)), (.int ((1 : Int32) &&& (1 : Int32)))]))
    refine own_go (fun _ k => XS.iand X29.here hx rfl (hb hby at_144) rfl k) ?_
    show own_Fin p.tables e below _ (T29.setTop (mkF m 145 #[.val (.int i1), .val (.int i2), .val (.int i3), .val (.int i4), .val (.int i5), .val (.int ((i2 &&& (127 : Int32)).toUInt32.toUInt16.toUInt32.toInt32)), .val (.int ((i3 &&& (127 : Int32)).toUInt32.toUInt16.toUInt32.toInt32)), .val (.ref a1), .val (.ref a4), .val (.ref a8), .val (.int (1 : Int32)), .val (.int (1 : Int32)), .val (.int (1 : Int32))] [(.int (((1 : Int32) &&& (1 : Int32)) &&& (1 : Int32)))]))
    refine own_retN X29 hx hlk (t := .boolean) hret (by simp) (hb hby at_145) ?_ (by decide) (by decide)
    exact ⟨rfl, N29⟩
  · rw [q]
    show own_Fin p.tables e below _ (T8.setTop (mkF m 55 #[.val (.int i1), .val (.int i2), .val (.int i3), .val (.int i4), .val (.int i5), .val (.int ((i2 &&& (127 : Int32)).toUInt32.toUInt16.toUInt32.toInt32)), .val (.int ((i3 &&& (127 : Int32)).toUInt32.toUInt16.toUInt32.toInt32)), .val (.ref a1), .val (.ref a4), .unset, .unset, .unset, .unset] [(.int (3 : Int32)), (.ref a8), (.ref a8)]))
    obtain ⟨_, T30, L30, X30, ⟨rfl, M30, KK30, b30, kb30, Gb30, Gl30, q30, Ga30⟩, st30⟩ := own_callC X8 hx hZ hown rfl (hw _ (List.mem_of_getElem? (i := 33) rfl)) (hw _ (List.mem_of_getElem? (i := 34) rfl)) (hw _ (List.mem_of_getElem? (i := 32) rfl)) (hw _ (List.mem_of_getElem? (i := 35) rfl)) (by decide) (W := 1) (rmi l Z a0 hw [] a8 (3 : Int32) h8 n0 (Nat.le_trans Z0 K8.1) A8 Fa8_bytes Fa8_length z8 (by decide) (by decide)) (by decide) (by decide) e8 (g := (mkF m 55 #[.val (.int i1), .val (.int i2), .val (.int i3), .val (.int i4), .val (.int i5), .val (.int ((i2 &&& (127 : Int32)).toUInt32.toUInt16.toUInt32.toInt32)), .val (.int ((i3 &&& (127 : Int32)).toUInt32.toUInt16.toUInt32.toInt32)), .val (.ref a1), .val (.ref a4), .unset, .unset, .unset, .unset] [(.int (3 : Int32)), (.ref a8), (.ref a8)])) rfl (by rw [hml]; rfl) (argsL := [(.int (3 : Int32))]) (rest := [(.ref a8)]) rfl (lenOf pd4 rfl) rfl (by show 2 * 0 + _ ≤ _; exact Nat.le_of_eq rfl) (hb hby at_55) (by decide) (by decide)
    have N30 := Fr.app N7 M30
    have ne_a1_b30 : a1 ≠ b30 := own_lt_ne Va1_8.lt q30
    have ne_a4_b30 : a4 ≠ b30 := own_lt_ne Ea4_8.lt q30
    have ne_t7_b30 : t7 ≠ b30 := own_lt_ne Vt7_8.lt q30
    have ne_a8_b30 : a8 ≠ b30 := own_lt_ne A8.lt q30
    have O_30 := O_8.keep KK30 (allS z8 all0)
    have Va1_30 := Va1_8.keep KK30 (ninS ne_a1_a8 nin0)
    have Ea4_30 := Ea4_8.keep KK30
    have Fa4_coder_30 := Fa4_coder_8.keep KK30 (ninS ne_a4_a8 nin0)
    have Fa4_value_30 := Fa4_value_8.keep KK30 (ninS ne_a4_a8 nin0)
    have Vt7_30 := Vt7_8.keep KK30 (ninS ne_t7_a8 nin0)
    have Ea8_30 := A8.keep KK30
    have K30 := K8.trans KK30 (allS (Or.inr q8) all0)
    refine own_go st30 ?_
    show own_Fin p.tables e below _ (T30.setTop (mkF m 58 #[.val (.int i1), .val (.int i2), .val (.int i3), .val (.int i4), .val (.int i5), .val (.int ((i2 &&& (127 : Int32)).toUInt32.toUInt16.toUInt32.toInt32)), .val (.int ((i3 &&& (127 : Int32)).toUInt32.toUInt16.toUInt32.toInt32)), .val (.ref a1), .val (.ref a4), .unset, .unset, .unset, .unset] [(.ref a8)]))
    refine own_go (fun _ k => XS.astore X30.here hx rfl (hb hby at_58) rfl rfl (l' := #[.val (.int i1), .val (.int i2), .val (.int i3), .val (.int i4), .val (.int i5), .val (.int ((i2 &&& (127 : Int32)).toUInt32.toUInt16.toUInt32.toInt32)), .val (.int ((i3 &&& (127 : Int32)).toUInt32.toUInt16.toUInt32.toInt32)), .val (.ref a1), .val (.ref a4), .val (.ref a8), .unset, .unset, .unset]) rfl k) ?_
    show own_Fin p.tables e below _ (T30.setTop (mkF m 60 #[.val (.int i1), .val (.int i2), .val (.int i3), .val (.int i4), .val (.int i5), .val (.int ((i2 &&& (127 : Int32)).toUInt32.toUInt16.toUInt32.toInt32)), .val (.int ((i3 &&& (127 : Int32)).toUInt32.toUInt16.toUInt32.toInt32)), .val (.ref a1), .val (.ref a4), .val (.ref a8), .unset, .unset, .unset] []))
    refine own_go (fun _ k => XS.aload X30.here hx rfl (hb hby at_60) rfl rfl k) ?_
    show own_Fin p.tables e below _ (T30.setTop (mkF m 62 #[.val (.int i1), .val (.int i2), .val (.int i3), .val (.int i4), .val (.int i5), .val (.int ((i2 &&& (127 : Int32)).toUInt32.toUInt16.toUInt32.toInt32)), .val (.int ((i3 &&& (127 : Int32)).toUInt32.toUInt16.toUInt32.toInt32)), .val (.ref a1), .val (.ref a4), .val (.ref a8), .unset, .unset, .unset] [(.ref a8)]))
    refine own_go (fun _ k => XS.iload X30.here hx rfl (hb hby at_62) rfl k) ?_
    show own_Fin p.tables e below _ (T30.setTop (mkF m 64 #[.val (.int i1), .val (.int i2), .val (.int i3), .val (.int i4), .val (.int i5), .val (.int ((i2 &&& (127 : Int32)).toUInt32.toUInt16.toUInt32.toInt32)), .val (.int ((i3 &&& (127 : Int32)).toUInt32.toUInt16.toUInt32.toInt32)), .val (.ref a1), .val (.ref a4), .val (.ref a8), .unset, .unset, .unset] [(.int ((i2 &&& (127 : Int32)).toUInt32.toUInt16.toUInt32.toInt32)), (.ref a8)]))
    obtain ⟨_, T31, L31, X31, ⟨rfl, M31, KK31, Gb31, Gl31, Ga31⟩, st31⟩ := own_callV X30 hx hZ hown (hw _ (List.mem_of_getElem? (i := 39) rfl)) (hw _ (List.mem_of_getElem? (i := 40) rfl)) (hw _ (List.mem_of_getElem? (i := 42) rfl)) (hw _ (List.mem_of_getElem? (i := 41) rfl)) (hw _ (List.mem_of_getElem? (i := 32) rfl)) (hw _ (List.mem_of_getElem? (i := 43) rfl)) (by decide) (W := 0) (rman0 l Z a0 hw [] a8 ((i2 &&& (127 : Int32)).toUInt32.toUInt16.toUInt32.toInt32) T30.heap n0 (Nat.le_trans Z0 K30.1) b30 kb30  (3 : Int32) Ea8_30 Gb30 Gl30 Ga30 z8 (Nat.le_trans Z0 (Nat.le_trans K8.1 q30)) (by decide)) (by decide) (by decide) rfl Ea8_30 (g := (mkF m 64 #[.val (.int i1), .val (.int i2), .val (.int i3), .val (.int i4), .val (.int i5), .val (.int ((i2 &&& (127 : Int32)).toUInt32.toUInt16.toUInt32.toInt32)), .val (.int ((i3 &&& (127 : Int32)).toUInt32.toUInt16.toUInt32.toInt32)), .val (.ref a1), .val (.ref a4), .val (.ref a8), .unset, .unset, .unset] [(.int ((i2 &&& (127 : Int32)).toUInt32.toUInt16.toUInt32.toInt32)), (.ref a8)])) rfl (by rw [hml]; rfl) (argsL := [(.int ((i2 &&& (127 : Int32)).toUInt32.toUInt16.toUInt32.toInt32))]) (rest := []) rfl (lenOf pd5 rfl) rfl (by show 2 * 0 + _ ≤ _; exact Nat.le_of_eq rfl) (hb hby at_64) (by decide) (by decide)
    have N31 := Fr.app N30 M31
    have O_31 := O_30.keep KK31 (allS z8 (allS (Nat.le_trans Z0 (Nat.le_trans K8.1 q30)) all0))
    have Va1_31 := Va1_30.keep KK31 (ninS ne_a1_a8 (ninS ne_a1_b30 nin0))
    have Ea4_31 := Ea4_30.keep KK31
    have Fa4_coder_31 := Fa4_coder_30.keep KK31 (ninS ne_a4_a8 (ninS ne_a4_b30 nin0))
    have Fa4_value_31 := Fa4_value_30.keep KK31 (ninS ne_a4_a8 (ninS ne_a4_b30 nin0))
    have Vt7_31 := Vt7_30.keep KK31 (ninS ne_t7_a8 (ninS ne_t7_b30 nin0))
    have Ea8_31 := Ea8_30.keep KK31
    have K31 := K30.trans KK31 (allS (Or.inr q8) (allS (Or.inr (Nat.le_trans K8.1 q30)) all0))
    refine own_go st31 ?_
    show own_Fin p.tables e below _ (T31.setTop (mkF m 67 #[.val (.int i1), .val (.int i2), .val (.int i3), .val (.int i4), .val (.int i5), .val (.int ((i2 &&& (127 : Int32)).toUInt32.toUInt16.toUInt32.toInt32)), .val (.int ((i3 &&& (127 : Int32)).toUInt32.toUInt16.toUInt32.toInt32)), .val (.ref a1), .val (.ref a4), .val (.ref a8), .unset, .unset, .unset] []))
    refine own_go (fun _ k => XS.aload X31.here hx rfl (hb hby at_67) rfl rfl k) ?_
    show own_Fin p.tables e below _ (T31.setTop (mkF m 69 #[.val (.int i1), .val (.int i2), .val (.int i3), .val (.int i4), .val (.int i5), .val (.int ((i2 &&& (127 : Int32)).toUInt32.toUInt16.toUInt32.toInt32)), .val (.int ((i3 &&& (127 : Int32)).toUInt32.toUInt16.toUInt32.toInt32)), .val (.ref a1), .val (.ref a4), .val (.ref a8), .unset, .unset, .unset] [(.ref a8)]))
    obtain ⟨_, T32, L32, X32, ⟨rfl, M32, e32⟩, st32⟩ := own_callV X31 hx hZ hown (hw _ (List.mem_of_getElem? (i := 71) rfl)) (hw _ (List.mem_of_getElem? (i := 72) rfl)) (hw _ (List.mem_of_getElem? (i := 74) rfl)) (hw _ (List.mem_of_getElem? (i := 73) rfl)) (hw _ (List.mem_of_getElem? (i := 32) rfl)) (hw _ (List.mem_of_getElem? (i := 75) rfl)) (by decide) (W := 0) (rml1 l Z a0 hw [] a8 T31.heap n0 (Nat.le_trans Z0 K31.1) b30 kb30 (nar .byte (((i2 &&& (127 : Int32)).toUInt32.toUInt16.toUInt32.toInt32).toInt8.toInt32)) (3 : Int32) Ea8_31 Gb31 Gl31 Ga31 z8 (Nat.le_trans Z0 (Nat.le_trans K8.1 q30)) (by decide)) (by decide) (by decide) rfl Ea8_31 (g := (mkF m 69 #[.val (.int i1), .val (.int i2), .val (.int i3), .val (.int i4), .val (.int i5), .val (.int ((i2 &&& (127 : Int32)).toUInt32.toUInt16.toUInt32.toInt32)), .val (.int ((i3 &&& (127 : Int32)).toUInt32.toUInt16.toUInt32.toInt32)), .val (.ref a1), .val (.ref a4), .val (.ref a8), .unset, .unset, .unset] [(.ref a8)])) rfl (by rw [hml]; rfl) (argsL := []) (rest := []) rfl (lenOf pd6 rfl) rfl (by show 2 * 0 + _ ≤ _; exact Nat.le_of_eq rfl) (hb hby at_69) (by decide) (by decide)
    have N32 := Fr.app N31 M32
    refine own_go st32 ?_
    show own_Fin p.tables e below _ (T32.setTop (mkF m 72 #[.val (.int i1), .val (.int i2), .val (.int i3), .val (.int i4), .val (.int i5), .val (.int ((i2 &&& (127 : Int32)).toUInt32.toUInt16.toUInt32.toInt32)), .val (.int ((i3 &&& (127 : Int32)).toUInt32.toUInt16.toUInt32.toInt32)), .val (.ref a1), .val (.ref a4), .val (.ref a8), .unset, .unset, .unset] [(.int (nar .byte (nar .byte (((i2 &&& (127 : Int32)).toUInt32.toUInt16.toUInt32.toInt32).toInt8.toInt32))))]))
    refine own_go (fun _ k => XS.iload X32.here hx rfl (hb hby at_72) rfl k) ?_
    show own_Fin p.tables e below _ (T32.setTop (mkF m 74 #[.val (.int i1), .val (.int i2), .val (.int i3), .val (.int i4), .val (.int i5), .val (.int ((i2 &&& (127 : Int32)).toUInt32.toUInt16.toUInt32.toInt32)), .val (.int ((i3 &&& (127 : Int32)).toUInt32.toUInt16.toUInt32.toInt32)), .val (.ref a1), .val (.ref a4), .val (.ref a8), .unset, .unset, .unset] [(.int ((i2 &&& (127 : Int32)).toUInt32.toUInt16.toUInt32.toInt32)), (.int (nar .byte (nar .byte (((i2 &&& (127 : Int32)).toUInt32.toUInt16.toUInt32.toInt32).toInt8.toInt32))))]))
    refine own_go (fun _ k => XT.i2b X32.here hx rfl (hb hby at_74) rfl k) ?_
    show own_Fin p.tables e below _ (T32.setTop (mkF m 75 #[.val (.int i1), .val (.int i2), .val (.int i3), .val (.int i4), .val (.int i5), .val (.int ((i2 &&& (127 : Int32)).toUInt32.toUInt16.toUInt32.toInt32)), .val (.int ((i3 &&& (127 : Int32)).toUInt32.toUInt16.toUInt32.toInt32)), .val (.ref a1), .val (.ref a4), .val (.ref a8), .unset, .unset, .unset] [(.int (((i2 &&& (127 : Int32)).toUInt32.toUInt16.toUInt32.toInt32).toInt8.toInt32)), (.int (nar .byte (nar .byte (((i2 &&& (127 : Int32)).toUInt32.toUInt16.toUInt32.toInt32).toInt8.toInt32))))]))
    refine own_go (fun _ k => XS.icmpNo X32.here hx rfl (hb hby at_75) rfl (XT.ii_ne_f (by simp only [own_narb])) k) ?_
    show own_Fin p.tables e below _ (T32.setTop (mkF m 78 #[.val (.int i1), .val (.int i2), .val (.int i3), .val (.int i4), .val (.int i5), .val (.int ((i2 &&& (127 : Int32)).toUInt32.toUInt16.toUInt32.toInt32)), .val (.int ((i3 &&& (127 : Int32)).toUInt32.toUInt16.toUInt32.toInt32)), .val (.ref a1), .val (.ref a4), .val (.ref a8), .unset, .unset, .unset] []))
    refine own_go (fun _ k => XT.iconstV X32.here hx rfl (1 : Int32) (hb hby at_78) (by decide) k) ?_
    show own_Fin p.tables e below _ (T32.setTop (mkF m 79 #[.val (.int i1), .val (.int i2), .val (.int i3), .val (.int i4), .val (.int i5), .val (.int ((i2 &&& (127 : Int32)).toUInt32.toUInt16.toUInt32.toInt32)), .val (.int ((i3 &&& (127 : Int32)).toUInt32.toUInt16.toUInt32.toInt32)), .val (.ref a1), .val (.ref a4), .val (.ref a8), .unset, .unset, .unset] [(.int (1 : Int32))]))
    refine own_go (fun _ k => XS.goto X32.here hx rfl (pc0 := 79) (pc' := 83) rfl (hb hby at_79) (by decide) (by decide) k) ?_
    show own_Fin p.tables e below _ (T32.setTop (mkF m 83 #[.val (.int i1), .val (.int i2), .val (.int i3), .val (.int i4), .val (.int i5), .val (.int ((i2 &&& (127 : Int32)).toUInt32.toUInt16.toUInt32.toInt32)), .val (.int ((i3 &&& (127 : Int32)).toUInt32.toUInt16.toUInt32.toInt32)), .val (.ref a1), .val (.ref a4), .val (.ref a8), .unset, .unset, .unset] [(.int (1 : Int32))]))
    refine own_go (fun _ k => XS.istore X32.here hx rfl (hb hby at_83) rfl (l' := #[.val (.int i1), .val (.int i2), .val (.int i3), .val (.int i4), .val (.int i5), .val (.int ((i2 &&& (127 : Int32)).toUInt32.toUInt16.toUInt32.toInt32)), .val (.int ((i3 &&& (127 : Int32)).toUInt32.toUInt16.toUInt32.toInt32)), .val (.ref a1), .val (.ref a4), .val (.ref a8), .val (.int (1 : Int32)), .unset, .unset]) rfl k) ?_
    show own_Fin p.tables e below _ (T32.setTop (mkF m 85 #[.val (.int i1), .val (.int i2), .val (.int i3), .val (.int i4), .val (.int i5), .val (.int ((i2 &&& (127 : Int32)).toUInt32.toUInt16.toUInt32.toInt32)), .val (.int ((i3 &&& (127 : Int32)).toUInt32.toUInt16.toUInt32.toInt32)), .val (.ref a1), .val (.ref a4), .val (.ref a8), .val (.int (1 : Int32)), .unset, .unset] []))
    refine own_go (fun _ k => XS.aload X32.here hx rfl (hb hby at_85) rfl rfl k) ?_
    show own_Fin p.tables e below _ (T32.setTop (mkF m 87 #[.val (.int i1), .val (.int i2), .val (.int i3), .val (.int i4), .val (.int i5), .val (.int ((i2 &&& (127 : Int32)).toUInt32.toUInt16.toUInt32.toInt32)), .val (.int ((i3 &&& (127 : Int32)).toUInt32.toUInt16.toUInt32.toInt32)), .val (.ref a1), .val (.ref a4), .val (.ref a8), .val (.int (1 : Int32)), .unset, .unset] [(.ref a8)]))
    refine own_go (fun _ k => XS.iload X32.here hx rfl (hb hby at_87) rfl k) ?_
    show own_Fin p.tables e below _ (T32.setTop (mkF m 89 #[.val (.int i1), .val (.int i2), .val (.int i3), .val (.int i4), .val (.int i5), .val (.int ((i2 &&& (127 : Int32)).toUInt32.toUInt16.toUInt32.toInt32)), .val (.int ((i3 &&& (127 : Int32)).toUInt32.toUInt16.toUInt32.toInt32)), .val (.ref a1), .val (.ref a4), .val (.ref a8), .val (.int (1 : Int32)), .unset, .unset] [(.int ((i3 &&& (127 : Int32)).toUInt32.toUInt16.toUInt32.toInt32)), (.ref a8)]))
    obtain ⟨_, T33, L33, X33, ⟨rfl, M33, KK33, Gb33, Gl33, Ga33⟩, st33⟩ := own_callV X32 hx hZ hown (hw _ (List.mem_of_getElem? (i := 39) rfl)) (hw _ (List.mem_of_getElem? (i := 40) rfl)) (hw _ (List.mem_of_getElem? (i := 42) rfl)) (hw _ (List.mem_of_getElem? (i := 41) rfl)) (hw _ (List.mem_of_getElem? (i := 32) rfl)) (hw _ (List.mem_of_getElem? (i := 43) rfl)) (by decide) (W := 0) (rman1 l Z a0 hw [] a8 ((i3 &&& (127 : Int32)).toUInt32.toUInt16.toUInt32.toInt32) T31.heap n0 (Nat.le_trans Z0 K31.1) b30 kb30 (nar .byte (((i2 &&& (127 : Int32)).toUInt32.toUInt16.toUInt32.toInt32).toInt8.toInt32)) (3 : Int32) Ea8_31 Gb31 Gl31 Ga31 z8 (Nat.le_trans Z0 (Nat.le_trans K8.1 q30)) (by decide)) (by decide) (by decide) e32 Ea8_31 (g := (mkF m 89 #[.val (.int i1), .val (.int i2), .val (.int i3), .val (.int i4), .val (.int i5), .val (.int ((i2 &&& (127 : Int32)).toUInt32.toUInt16.toUInt32.toInt32)), .val (.int ((i3 &&& (127 : Int32)).toUInt32.toUInt16.toUInt32.toInt32)), .val (.ref a1), .val (.ref a4), .val (.ref a8), .val (.int (1 : Int32)), .unset, .unset] [(.int ((i3 &&& (127 : Int32)).toUInt32.toUInt16.toUInt32.toInt32)), (.ref a8)])) rfl (by rw [hml]; rfl) (argsL := [(.int ((i3 &&& (127 : Int32)).toUInt32.toUInt16.toUInt32.toInt32))]) (rest := []) rfl (lenOf pd5 rfl) rfl (by show 2 * 0 + _ ≤ _; exact Nat.le_of_eq rfl) (hb hby at_89) (by decide) (by decide)
    have N33 := Fr.app N32 M33
    have O_33 := O_31.keep KK33 (allS z8 (allS (Nat.le_trans Z0 (Nat.le_trans K8.1 q30)) all0))
    have Va1_33 := Va1_31.keep KK33 (ninS ne_a1_a8 (ninS ne_a1_b30 nin0))
    have Ea4_33 := Ea4_31.keep KK33
    have Fa4_coder_33 := Fa4_coder_31.keep KK33 (ninS ne_a4_a8 (ninS ne_a4_b30 nin0))
    have Fa4_value_33 := Fa4_value_31.keep KK33 (ninS ne_a4_a8 (ninS ne_a4_b30 nin0))
    have Vt7_33 := Vt7_31.keep KK33 (ninS ne_t7_a8 (ninS ne_t7_b30 nin0))
    have Ea8_33 := Ea8_31.keep KK33
    have K33 := K31.trans KK33 (allS (Or.inr q8) (allS (Or.inr (Nat.le_trans K8.1 q30)) all0))
    refine own_go st33 ?_
    show own_Fin p.tables e below _ (T33.setTop (mkF m 92 #[.val (.int i1), .val (.int i2), .val (.int i3), .val (.int i4), .val (.int i5), .val (.int ((i2 &&& (127 : Int32)).toUInt32.toUInt16.toUInt32.toInt32)), .val (.int ((i3 &&& (127 : Int32)).toUInt32.toUInt16.toUInt32.toInt32)), .val (.ref a1), .val (.ref a4), .val (.ref a8), .val (.int (1 : Int32)), .unset, .unset] []))
    refine own_go (fun _ k => XS.aload X33.here hx rfl (hb hby at_92) rfl rfl k) ?_
    show own_Fin p.tables e below _ (T33.setTop (mkF m 94 #[.val (.int i1), .val (.int i2), .val (.int i3), .val (.int i4), .val (.int i5), .val (.int ((i2 &&& (127 : Int32)).toUInt32.toUInt16.toUInt32.toInt32)), .val (.int ((i3 &&& (127 : Int32)).toUInt32.toUInt16.toUInt32.toInt32)), .val (.ref a1), .val (.ref a4), .val (.ref a8), .val (.int (1 : Int32)), .unset, .unset] [(.ref a8)]))
    obtain ⟨_, T34, L34, X34, ⟨rfl, M34, e34⟩, st34⟩ := own_callV X33 hx hZ hown (hw _ (List.mem_of_getElem? (i := 71) rfl)) (hw _ (List.mem_of_getElem? (i := 72) rfl)) (hw _ (List.mem_of_getElem? (i := 74) rfl)) (hw _ (List.mem_of_getElem? (i := 73) rfl)) (hw _ (List.mem_of_getElem? (i := 32) rfl)) (hw _ (List.mem_of_getElem? (i := 75) rfl)) (by decide) (W := 0) (rml2 l Z a0 hw [] a8 T33.heap n0 (Nat.le_trans Z0 K33.1) b30 kb30 (nar .byte (((i2 &&& (127 : Int32)).toUInt32.toUInt16.toUInt32.toInt32).toInt8.toInt32)) (nar .byte (((i3 &&& (127 : Int32)).toUInt32.toUInt16.toUInt32.toInt32).toInt8.toInt32)) (3 : Int32) Ea8_33 Gb33 Gl33 Ga33 z8 (Nat.le_trans Z0 (Nat.le_trans K8.1 q30)) (by decide)) (by decide) (by decide) rfl Ea8_33 (g := (mkF m 94 #[.val (.int i1), .val (.int i2), .val (.int i3), .val (.int i4), .val (.int i5), .val (.int ((i2 &&& (127 : Int32)).toUInt32.toUInt16.toUInt32.toInt32)), .val (.int ((i3 &&& (127 : Int32)).toUInt32.toUInt16.toUInt32.toInt32)), .val (.ref a1), .val (.ref a4), .val (.ref a8), .val (.int (1 : Int32)), .unset, .unset] [(.ref a8)])) rfl (by rw [hml]; rfl) (argsL := []) (rest := []) rfl (lenOf pd6 rfl) rfl (by show 2 * 0 + _ ≤ _; exact Nat.le_of_eq rfl) (hb hby at_94) (by decide) (by decide)
    have N34 := Fr.app N33 M34
    refine own_go st34 ?_
    show own_Fin p.tables e below _ (T34.setTop (mkF m 97 #[.val (.int i1), .val (.int i2), .val (.int i3), .val (.int i4), .val (.int i5), .val (.int ((i2 &&& (127 : Int32)).toUInt32.toUInt16.toUInt32.toInt32)), .val (.int ((i3 &&& (127 : Int32)).toUInt32.toUInt16.toUInt32.toInt32)), .val (.ref a1), .val (.ref a4), .val (.ref a8), .val (.int (1 : Int32)), .unset, .unset] [(.int (nar .byte (nar .byte (((i3 &&& (127 : Int32)).toUInt32.toUInt16.toUInt32.toInt32).toInt8.toInt32))))]))
    refine own_go (fun _ k => XS.iload X34.here hx rfl (hb hby at_97) rfl k) ?_
    show own_Fin p.tables e below _ (T34.setTop (mkF m 99 #[.val (.int i1), .val (.int i2), .val (.int i3), .val (.int i4), .val (.int i5), .val (.int ((i2 &&& (127 : Int32)).toUInt32.toUInt16.toUInt32.toInt32)), .val (.int ((i3 &&& (127 : Int32)).toUInt32.toUInt16.toUInt32.toInt32)), .val (.ref a1), .val (.ref a4), .val (.ref a8), .val (.int (1 : Int32)), .unset, .unset] [(.int ((i3 &&& (127 : Int32)).toUInt32.toUInt16.toUInt32.toInt32)), (.int (nar .byte (nar .byte (((i3 &&& (127 : Int32)).toUInt32.toUInt16.toUInt32.toInt32).toInt8.toInt32))))]))
    refine own_go (fun _ k => XT.i2b X34.here hx rfl (hb hby at_99) rfl k) ?_
    show own_Fin p.tables e below _ (T34.setTop (mkF m 100 #[.val (.int i1), .val (.int i2), .val (.int i3), .val (.int i4), .val (.int i5), .val (.int ((i2 &&& (127 : Int32)).toUInt32.toUInt16.toUInt32.toInt32)), .val (.int ((i3 &&& (127 : Int32)).toUInt32.toUInt16.toUInt32.toInt32)), .val (.ref a1), .val (.ref a4), .val (.ref a8), .val (.int (1 : Int32)), .unset, .unset] [(.int (((i3 &&& (127 : Int32)).toUInt32.toUInt16.toUInt32.toInt32).toInt8.toInt32)), (.int (nar .byte (nar .byte (((i3 &&& (127 : Int32)).toUInt32.toUInt16.toUInt32.toInt32).toInt8.toInt32))))]))
    refine own_go (fun _ k => XS.icmpNo X34.here hx rfl (hb hby at_100) rfl (XT.ii_ne_f (by simp only [own_narb])) k) ?_
    show own_Fin p.tables e below _ (T34.setTop (mkF m 103 #[.val (.int i1), .val (.int i2), .val (.int i3), .val (.int i4), .val (.int i5), .val (.int ((i2 &&& (127 : Int32)).toUInt32.toUInt16.toUInt32.toInt32)), .val (.int ((i3 &&& (127 : Int32)).toUInt32.toUInt16.toUInt32.toInt32)), .val (.ref a1), .val (.ref a4), .val (.ref a8), .val (.int (1 : Int32)), .unset, .unset] []))
    refine own_go (fun _ k => XT.iconstV X34.here hx rfl (1 : Int32) (hb hby at_103) (by decide) k) ?_
    show own_Fin p.tables e below _ (T34.setTop (mkF m 104 #[.val (.int i1), .val (.int i2), .val (.int i3), .val (.int i4), .val (.int i5), .val (.int ((i2 &&& (127 : Int32)).toUInt32.toUInt16.toUInt32.toInt32)), .val (.int ((i3 &&& (127 : Int32)).toUInt32.toUInt16.toUInt32.toInt32)), .val (.ref a1), .val (.ref a4), .val (.ref a8), .val (.int (1 : Int32)), .unset, .unset] [(.int (1 : Int32))]))
    refine own_go (fun _ k => XS.goto X34.here hx rfl (pc0 := 104) (pc' := 108) rfl (hb hby at_104) (by decide) (by decide) k) ?_
    show own_Fin p.tables e below _ (T34.setTop (mkF m 108 #[.val (.int i1), .val (.int i2), .val (.int i3), .val (.int i4), .val (.int i5), .val (.int ((i2 &&& (127 : Int32)).toUInt32.toUInt16.toUInt32.toInt32)), .val (.int ((i3 &&& (127 : Int32)).toUInt32.toUInt16.toUInt32.toInt32)), .val (.ref a1), .val (.ref a4), .val (.ref a8), .val (.int (1 : Int32)), .unset, .unset] [(.int (1 : Int32))]))
    refine own_go (fun _ k => XS.istore X34.here hx rfl (hb hby at_108) rfl (l' := #[.val (.int i1), .val (.int i2), .val (.int i3), .val (.int i4), .val (.int i5), .val (.int ((i2 &&& (127 : Int32)).toUInt32.toUInt16.toUInt32.toInt32)), .val (.int ((i3 &&& (127 : Int32)).toUInt32.toUInt16.toUInt32.toInt32)), .val (.ref a1), .val (.ref a4), .val (.ref a8), .val (.int (1 : Int32)), .val (.int (1 : Int32)), .unset]) rfl k) ?_
    show own_Fin p.tables e below _ (T34.setTop (mkF m 110 #[.val (.int i1), .val (.int i2), .val (.int i3), .val (.int i4), .val (.int i5), .val (.int ((i2 &&& (127 : Int32)).toUInt32.toUInt16.toUInt32.toInt32)), .val (.int ((i3 &&& (127 : Int32)).toUInt32.toUInt16.toUInt32.toInt32)), .val (.ref a1), .val (.ref a4), .val (.ref a8), .val (.int (1 : Int32)), .val (.int (1 : Int32)), .unset] []))
    refine own_go (fun _ k => XS.aload X34.here hx rfl (hb hby at_110) rfl rfl k) ?_
    show own_Fin p.tables e below _ (T34.setTop (mkF m 112 #[.val (.int i1), .val (.int i2), .val (.int i3), .val (.int i4), .val (.int i5), .val (.int ((i2 &&& (127 : Int32)).toUInt32.toUInt16.toUInt32.toInt32)), .val (.int ((i3 &&& (127 : Int32)).toUInt32.toUInt16.toUInt32.toInt32)), .val (.ref a1), .val (.ref a4), .val (.ref a8), .val (.int (1 : Int32)), .val (.int (1 : Int32)), .unset] [(.ref a8)]))
    refine own_go (fun _ k => XS.aload X34.here hx rfl (hb hby at_112) rfl rfl k) ?_
    show own_Fin p.tables e below _ (T34.setTop (mkF m 114 #[.val (.int i1), .val (.int i2), .val (.int i3), .val (.int i4), .val (.int i5), .val (.int ((i2 &&& (127 : Int32)).toUInt32.toUInt16.toUInt32.toInt32)), .val (.int ((i3 &&& (127 : Int32)).toUInt32.toUInt16.toUInt32.toInt32)), .val (.ref a1), .val (.ref a4), .val (.ref a8), .val (.int (1 : Int32)), .val (.int (1 : Int32)), .unset] [(.ref a4), (.ref a8)]))
    obtain ⟨_, T35, L35, X35, ⟨rfl, M35, KK35, b35, kb35, Gb35, Gl35, q35, Ga35⟩, st35⟩ := own_callV X34 hx hZ hown (hw _ (List.mem_of_getElem? (i := 76) rfl)) (hw _ (List.mem_of_getElem? (i := 77) rfl)) (hw _ (List.mem_of_getElem? (i := 79) rfl)) (hw _ (List.mem_of_getElem? (i := 78) rfl)) (hw _ (List.mem_of_getElem? (i := 32) rfl)) (hw _ (List.mem_of_getElem? (i := 80) rfl)) (by decide) (W := 0) (rmx3 l Z a0 hw [] a8 a4 T33.heap n0 (Nat.le_trans Z0 K33.1) b30 kb30 (nar .byte (((i2 &&& (127 : Int32)).toUInt32.toUInt16.toUInt32.toInt32).toInt8.toInt32)) (nar .byte (((i3 &&& (127 : Int32)).toUInt32.toUInt16.toUInt32.toInt32).toInt8.toInt32))  Ea8_33 Gb33 Gl33 Ga33 z8 (Nat.le_trans Z0 (Nat.le_trans K8.1 q30))  t7 kb7 ((nar .char ((i4 &&& (127 : Int32)).toUInt32.toUInt16.toUInt32.toInt32)).toInt8.toInt32) ((nar .char ((i5 &&& (127 : Int32)).toUInt32.toUInt16.toUInt32.toInt32)).toInt8.toInt32) Ea4_33 Fa4_value_33 Fa4_coder_33 Vt7_33 ne_t7_b30 ic SC hz O_33 fm SF rf) (by decide) (by decide) e34 Ea8_33 (g := (mkF m 114 #[.val (.int i1), .val (.int i2), .val (.int i3), .val (.int i4), .val (.int i5), .val (.int ((i2 &&& (127 : Int32)).toUInt32.toUInt16.toUInt32.toInt32)), .val (.int ((i3 &&& (127 : Int32)).toUInt32.toUInt16.toUInt32.toInt32)), .val (.ref a1), .val (.ref a4), .val (.ref a8), .val (.int (1 : Int32)), .val (.int (1 : Int32)), .unset] [(.ref a4), (.ref a8)])) rfl (by rw [hml]; rfl) (argsL := [(.ref a4)]) (rest := []) rfl (lenOf pd16 rfl) rfl (by show 2 * 0 + _ ≤ _; exact Nat.le_of_eq rfl) (hb hby at_114) (by decide) (by decide)
    have N35 := Fr.app N34 M35
    have ne_a1_b35 : a1 ≠ b35 := own_lt_ne Va1_33.lt q35
    have ne_a4_b35 : a4 ≠ b35 := own_lt_ne Ea4_33.lt q35
    have ne_t7_b35 : t7 ≠ b35 := own_lt_ne Vt7_33.lt q35
    have ne_a8_b35 : a8 ≠ b35 := own_lt_ne Ea8_33.lt q35
    have ne_b30_b35 : b30 ≠ b35 := own_lt_ne Ga33.lt q35
    have O_35 := O_33.keep KK35 (allS z8 all0)
    have Va1_35 := Va1_33.keep KK35 (ninS ne_a1_a8 nin0)
    have Ea4_35 := Ea4_33.keep KK35
    have Fa4_coder_35 := Fa4_coder_33.keep KK35 (ninS ne_a4_a8 nin0)
    have Fa4_value_35 := Fa4_value_33.keep KK35 (ninS ne_a4_a8 nin0)
    have Vt7_35 := Vt7_33.keep KK35 (ninS ne_t7_a8 nin0)
    have Ea8_35 := Ea8_33.keep KK35
    have Vb30_35 := Ga33.keep KK35 (ninS (Ne.symm ne_a8_b30) nin0)
    have K35 := K33.trans KK35 (allS (Or.inr q8) all0)
    refine own_go st35 ?_
    show own_Fin p.tables e below _ (T35.setTop (mkF m 117 #[.val (.int i1), .val (.int i2), .val (.int i3), .val (.int i4), .val (.int i5), .val (.int ((i2 &&& (127 : Int32)).toUInt32.toUInt16.toUInt32.toInt32)), .val (.int ((i3 &&& (127 : Int32)).toUInt32.toUInt16.toUInt32.toInt32)), .val (.ref a1), .val (.ref a4), .val (.ref a8), .val (.int (1 : Int32)), .val (.int (1 : Int32)), .unset] []))
    refine own_go (fun _ k => XS.aload X35.here hx rfl (hb hby at_117) rfl rfl k) ?_
    show own_Fin p.tables e below _ (T35.setTop (mkF m 119 #[.val (.int i1), .val (.int i2), .val (.int i3), .val (.int i4), .val (.int i5), .val (.int ((i2 &&& (127 : Int32)).toUInt32.toUInt16.toUInt32.toInt32)), .val (.int ((i3 &&& (127 : Int32)).toUInt32.toUInt16.toUInt32.toInt32)), .val (.ref a1), .val (.ref a4), .val (.ref a8), .val (.int (1 : Int32)), .val (.int (1 : Int32)), .unset] [(.ref a8)]))
    obtain ⟨_, T36, L36, X36, ⟨rfl, M36, e36⟩, st36⟩ := own_callV X35 hx hZ hown (hw _ (List.mem_of_getElem? (i := 71) rfl)) (hw _ (List.mem_of_getElem? (i := 72) rfl)) (hw _ (List.mem_of_getElem? (i := 74) rfl)) (hw _ (List.mem_of_getElem? (i := 73) rfl)) (hw _ (List.mem_of_getElem? (i := 32) rfl)) (hw _ (List.mem_of_getElem? (i := 75) rfl)) (by decide) (W := 0) (rml4 l Z a0 hw [] a8 T35.heap n0 (Nat.le_trans Z0 K35.1) b35 kb35 (nar .byte (((i2 &&& (127 : Int32)).toUInt32.toUInt16.toUInt32.toInt32).toInt8.toInt32)) (nar .byte (((i3 &&& (127 : Int32)).toUInt32.toUInt16.toUInt32.toInt32).toInt8.toInt32)) ((nar .char ((i4 &&& (127 : Int32)).toUInt32.toUInt16.toUInt32.toInt32)).toInt8.toInt32) ((nar .char ((i5 &&& (127 : Int32)).toUInt32.toUInt16.toUInt32.toInt32)).toInt8.toInt32) (6 : Int32) Ea8_35 Gb35 Gl35 Ga35 z8 (Nat.le_trans Z0 (Nat.le_trans K33.1 q35)) (by decide)) (by decide) (by decide) rfl Ea8_35 (g := (mkF m 119 #[.val (.int i1), .val (.int i2), .val (.int i3), .val (.int i4), .val (.int i5), .val (.int ((i2 &&& (127 : Int32)).toUInt32.toUInt16.toUInt32.toInt32)), .val (.int ((i3 &&& (127 : Int32)).toUInt32.toUInt16.toUInt32.toInt32)), .val (.ref a1), .val (.ref a4), .val (.ref a8), .val (.int (1 : Int32)), .val (.int (1 : Int32)), .unset] [(.ref a8)])) rfl (by rw [hml]; rfl) (argsL := []) (rest := []) rfl (lenOf pd6 rfl) rfl (by show 2 * 0 + _ ≤ _; exact Nat.le_of_eq rfl) (hb hby at_119) (by decide) (by decide)
    have N36 := Fr.app N35 M36
    refine own_go st36 ?_
    show own_Fin p.tables e below _ (T36.setTop (mkF m 122 #[.val (.int i1), .val (.int i2), .val (.int i3), .val (.int i4), .val (.int i5), .val (.int ((i2 &&& (127 : Int32)).toUInt32.toUInt16.toUInt32.toInt32)), .val (.int ((i3 &&& (127 : Int32)).toUInt32.toUInt16.toUInt32.toInt32)), .val (.ref a1), .val (.ref a4), .val (.ref a8), .val (.int (1 : Int32)), .val (.int (1 : Int32)), .unset] [(.int (nar .byte ((nar .char ((i5 &&& (127 : Int32)).toUInt32.toUInt16.toUInt32.toInt32)).toInt8.toInt32)))]))
    refine own_go (fun _ k => XS.aload X36.here hx rfl (hb hby at_122) rfl rfl k) ?_
    show own_Fin p.tables e below _ (T36.setTop (mkF m 124 #[.val (.int i1), .val (.int i2), .val (.int i3), .val (.int i4), .val (.int i5), .val (.int ((i2 &&& (127 : Int32)).toUInt32.toUInt16.toUInt32.toInt32)), .val (.int ((i3 &&& (127 : Int32)).toUInt32.toUInt16.toUInt32.toInt32)), .val (.ref a1), .val (.ref a4), .val (.ref a8), .val (.int (1 : Int32)), .val (.int (1 : Int32)), .unset] [(.ref a1), (.int (nar .byte ((nar .char ((i5 &&& (127 : Int32)).toUInt32.toUInt16.toUInt32.toInt32)).toInt8.toInt32)))]))
    refine own_go (fun _ k => XT.iconstV X36.here hx rfl (1 : Int32) (hb hby at_124) (by decide) k) ?_
    show own_Fin p.tables e below _ (T36.setTop (mkF m 125 #[.val (.int i1), .val (.int i2), .val (.int i3), .val (.int i4), .val (.int i5), .val (.int ((i2 &&& (127 : Int32)).toUInt32.toUInt16.toUInt32.toInt32)), .val (.int ((i3 &&& (127 : Int32)).toUInt32.toUInt16.toUInt32.toInt32)), .val (.ref a1), .val (.ref a4), .val (.ref a8), .val (.int (1 : Int32)), .val (.int (1 : Int32)), .unset] [(.int (1 : Int32)), (.ref a1), (.int (nar .byte ((nar .char ((i5 &&& (127 : Int32)).toUInt32.toUInt16.toUInt32.toInt32)).toInt8.toInt32)))]))
    refine own_go (fun _ k => own_cald X36 hx hZ e36 Va1_35 (j := (1 : Int32)) (by decide) (by decide) (g := (mkF m 125 #[.val (.int i1), .val (.int i2), .val (.int i3), .val (.int i4), .val (.int i5), .val (.int ((i2 &&& (127 : Int32)).toUInt32.toUInt16.toUInt32.toInt32)), .val (.int ((i3 &&& (127 : Int32)).toUInt32.toUInt16.toUInt32.toInt32)), .val (.ref a1), .val (.ref a4), .val (.ref a8), .val (.int (1 : Int32)), .val (.int (1 : Int32)), .unset] [(.int (1 : Int32)), (.ref a1), (.int (nar .byte ((nar .char ((i5 &&& (127 : Int32)).toUInt32.toUInt16.toUInt32.toInt32)).toInt8.toInt32)))])) rfl (rest := [(.int (nar .byte ((nar .char ((i5 &&& (127 : Int32)).toUInt32.toUInt16.toUInt32.toInt32)).toInt8.toInt32)))]) rfl (hb hby at_125) k) ?_
    show own_Fin p.tables e below _ (T36.setTop (mkF m 126 #[.val (.int i1), .val (.int i2), .val (.int i3), .val (.int i4), .val (.int i5), .val (.int ((i2 &&& (127 : Int32)).toUInt32.toUInt16.toUInt32.toInt32)), .val (.int ((i3 &&& (127 : Int32)).toUInt32.toUInt16.toUInt32.toInt32)), .val (.ref a1), .val (.ref a4), .val (.ref a8), .val (.int (1 : Int32)), .val (.int (1 : Int32)), .unset] [(.int (nar .char ((i5 &&& (127 : Int32)).toUInt32.toUInt16.toUInt32.toInt32))), (.int (nar .byte ((nar .char ((i5 &&& (127 : Int32)).toUInt32.toUInt16.toUInt32.toInt32)).toInt8.toInt32)))]))
    refine own_go (fun _ k => XT.i2b X36.here hx rfl (hb hby at_126) rfl k) ?_
    show own_Fin p.tables e below _ (T36.setTop (mkF m 127 #[.val (.int i1), .val (.int i2), .val (.int i3), .val (.int i4), .val (.int i5), .val (.int ((i2 &&& (127 : Int32)).toUInt32.toUInt16.toUInt32.toInt32)), .val (.int ((i3 &&& (127 : Int32)).toUInt32.toUInt16.toUInt32.toInt32)), .val (.ref a1), .val (.ref a4), .val (.ref a8), .val (.int (1 : Int32)), .val (.int (1 : Int32)), .unset] [(.int ((nar .char ((i5 &&& (127 : Int32)).toUInt32.toUInt16.toUInt32.toInt32)).toInt8.toInt32)), (.int (nar .byte ((nar .char ((i5 &&& (127 : Int32)).toUInt32.toUInt16.toUInt32.toInt32)).toInt8.toInt32)))]))
    refine own_go (fun _ k => XS.icmpNo X36.here hx rfl (hb hby at_127) rfl (XT.ii_ne_f (by simp only [own_narb])) k) ?_
    show own_Fin p.tables e below _ (T36.setTop (mkF m 130 #[.val (.int i1), .val (.int i2), .val (.int i3), .val (.int i4), .val (.int i5), .val (.int ((i2 &&& (127 : Int32)).toUInt32.toUInt16.toUInt32.toInt32)), .val (.int ((i3 &&& (127 : Int32)).toUInt32.toUInt16.toUInt32.toInt32)), .val (.ref a1), .val (.ref a4), .val (.ref a8), .val (.int (1 : Int32)), .val (.int (1 : Int32)), .unset] []))
    refine own_go (fun _ k => XT.iconstV X36.here hx rfl (1 : Int32) (hb hby at_130) (by decide) k) ?_
    show own_Fin p.tables e below _ (T36.setTop (mkF m 131 #[.val (.int i1), .val (.int i2), .val (.int i3), .val (.int i4), .val (.int i5), .val (.int ((i2 &&& (127 : Int32)).toUInt32.toUInt16.toUInt32.toInt32)), .val (.int ((i3 &&& (127 : Int32)).toUInt32.toUInt16.toUInt32.toInt32)), .val (.ref a1), .val (.ref a4), .val (.ref a8), .val (.int (1 : Int32)), .val (.int (1 : Int32)), .unset] [(.int (1 : Int32))]))
    refine own_go (fun _ k => XS.goto X36.here hx rfl (pc0 := 131) (pc' := 135) rfl (hb hby at_131) (by decide) (by decide) k) ?_
    show own_Fin p.tables e below _ (T36.setTop (mkF m 135 #[.val (.int i1), .val (.int i2), .val (.int i3), .val (.int i4), .val (.int i5), .val (.int ((i2 &&& (127 : Int32)).toUInt32.toUInt16.toUInt32.toInt32)), .val (.int ((i3 &&& (127 : Int32)).toUInt32.toUInt16.toUInt32.toInt32)), .val (.ref a1), .val (.ref a4), .val (.ref a8), .val (.int (1 : Int32)), .val (.int (1 : Int32)), .unset] [(.int (1 : Int32))]))
    refine own_go (fun _ k => XS.istore X36.here hx rfl (hb hby at_135) rfl (l' := #[.val (.int i1), .val (.int i2), .val (.int i3), .val (.int i4), .val (.int i5), .val (.int ((i2 &&& (127 : Int32)).toUInt32.toUInt16.toUInt32.toInt32)), .val (.int ((i3 &&& (127 : Int32)).toUInt32.toUInt16.toUInt32.toInt32)), .val (.ref a1), .val (.ref a4), .val (.ref a8), .val (.int (1 : Int32)), .val (.int (1 : Int32)), .val (.int (1 : Int32))]) rfl k) ?_
    show own_Fin p.tables e below _ (T36.setTop (mkF m 137 #[.val (.int i1), .val (.int i2), .val (.int i3), .val (.int i4), .val (.int i5), .val (.int ((i2 &&& (127 : Int32)).toUInt32.toUInt16.toUInt32.toInt32)), .val (.int ((i3 &&& (127 : Int32)).toUInt32.toUInt16.toUInt32.toInt32)), .val (.ref a1), .val (.ref a4), .val (.ref a8), .val (.int (1 : Int32)), .val (.int (1 : Int32)), .val (.int (1 : Int32))] []))
    refine own_go (fun _ k => XS.iload X36.here hx rfl (hb hby at_137) rfl k) ?_
    show own_Fin p.tables e below _ (T36.setTop (mkF m 139 #[.val (.int i1), .val (.int i2), .val (.int i3), .val (.int i4), .val (.int i5), .val (.int ((i2 &&& (127 : Int32)).toUInt32.toUInt16.toUInt32.toInt32)), .val (.int ((i3 &&& (127 : Int32)).toUInt32.toUInt16.toUInt32.toInt32)), .val (.ref a1), .val (.ref a4), .val (.ref a8), .val (.int (1 : Int32)), .val (.int (1 : Int32)), .val (.int (1 : Int32))] [(.int (1 : Int32))]))
    refine own_go (fun _ k => XS.iload X36.here hx rfl (hb hby at_139) rfl k) ?_
    show own_Fin p.tables e below _ (T36.setTop (mkF m 141 #[.val (.int i1), .val (.int i2), .val (.int i3), .val (.int i4), .val (.int i5), .val (.int ((i2 &&& (127 : Int32)).toUInt32.toUInt16.toUInt32.toInt32)), .val (.int ((i3 &&& (127 : Int32)).toUInt32.toUInt16.toUInt32.toInt32)), .val (.ref a1), .val (.ref a4), .val (.ref a8), .val (.int (1 : Int32)), .val (.int (1 : Int32)), .val (.int (1 : Int32))] [(.int (1 : Int32)), (.int (1 : Int32))]))
    refine own_go (fun _ k => XS.iand X36.here hx rfl (hb hby at_141) rfl k) ?_
    show own_Fin p.tables e below _ (T36.setTop (mkF m 142 #[.val (.int i1), .val (.int i2), .val (.int i3), .val (.int i4), .val (.int i5), .val (.int ((i2 &&& (127 : Int32)).toUInt32.toUInt16.toUInt32.toInt32)), .val (.int ((i3 &&& (127 : Int32)).toUInt32.toUInt16.toUInt32.toInt32)), .val (.ref a1), .val (.ref a4), .val (.ref a8), .val (.int (1 : Int32)), .val (.int (1 : Int32)), .val (.int (1 : Int32))] [(.int ((1 : Int32) &&& (1 : Int32)))]))
    refine own_go (fun _ k => XS.iload X36.here hx rfl (hb hby at_142) rfl k) ?_
    show own_Fin p.tables e below _ (T36.setTop (mkF m 144 #[.val (.int i1), .val (.int i2), .val (.int i3), .val (.int i4), .val (.int i5), .val (.int ((i2 &&& (127 : Int32)).toUInt32.toUInt16.toUInt32.toInt32)), .val (.int ((i3 &&& (127 : Int32)).toUInt32.toUInt16.toUInt32.toInt32)), .val (.ref a1), .val (.ref a4), .val (.ref a8), .val (.int (1 : Int32)), .val (.int (1 : Int32)), .val (.int (1 : Int32))] [(.int (1 : Int32)), (.int ((1 : Int32) &&& (1 : Int32)))]))
    refine own_go (fun _ k => XS.iand X36.here hx rfl (hb hby at_144) rfl k) ?_
    show own_Fin p.tables e below _ (T36.setTop (mkF m 145 #[.val (.int i1), .val (.int i2), .val (.int i3), .val (.int i4), .val (.int i5), .val (.int ((i2 &&& (127 : Int32)).toUInt32.toUInt16.toUInt32.toInt32)), .val (.int ((i3 &&& (127 : Int32)).toUInt32.toUInt16.toUInt32.toInt32)), .val (.ref a1), .val (.ref a4), .val (.ref a8), .val (.int (1 : Int32)), .val (.int (1 : Int32)), .val (.int (1 : Int32))] [(.int (((1 : Int32) &&& (1 : Int32)) &&& (1 : Int32)))]))
    refine own_retN X36 hx hlk (t := .boolean) hret (by simp) (hb hby at_145) ?_ (by decide) (by decide)
    exact ⟨rfl, N36⟩
  · obtain ⟨_, T37, L37, X37, ⟨rfl, M37, KK37, b37, kb37, Gb37, Gl37, q37, Ga37⟩, st37⟩ := own_callC X8 hx hZ hown rfl (hw _ (List.mem_of_getElem? (i := 33) rfl)) (hw _ (List.mem_of_getElem? (i := 34) rfl)) (hw _ (List.mem_of_getElem? (i := 32) rfl)) (hw _ (List.mem_of_getElem? (i := 35) rfl)) (by decide) (W := 1) (rmi l Z a0 hw [] a8 (i1 &&& (7 : Int32)) h8 n0 (Nat.le_trans Z0 K8.1) A8 Fa8_bytes Fa8_length z8 (own_hn hz4) (own_hc hz4)) (by decide) (by decide) e8 (g := (mkF m 55 #[.val (.int i1), .val (.int i2), .val (.int i3), .val (.int i4), .val (.int i5), .val (.int ((i2 &&& (127 : Int32)).toUInt32.toUInt16.toUInt32.toInt32)), .val (.int ((i3 &&& (127 : Int32)).toUInt32.toUInt16.toUInt32.toInt32)), .val (.ref a1), .val (.ref a4), .unset, .unset, .unset, .unset] [(.int (i1 &&& (7 : Int32))), (.ref a8), (.ref a8)])) rfl (by rw [hml]; rfl) (argsL := [(.int (i1 &&& (7 : Int32)))]) (rest := [(.ref a8)]) rfl (lenOf pd4 rfl) rfl (by show 2 * 0 + _ ≤ _; exact Nat.le_of_eq rfl) (hb hby at_55) (by decide) (by decide)
    have N37 := Fr.app N7 M37
    have ne_a1_b37 : a1 ≠ b37 := own_lt_ne Va1_8.lt q37
    have ne_a4_b37 : a4 ≠ b37 := own_lt_ne Ea4_8.lt q37
    have ne_t7_b37 : t7 ≠ b37 := own_lt_ne Vt7_8.lt q37
    have ne_a8_b37 : a8 ≠ b37 := own_lt_ne A8.lt q37
    have O_37 := O_8.keep KK37 (allS z8 all0)
    have Va1_37 := Va1_8.keep KK37 (ninS ne_a1_a8 nin0)
    have Ea4_37 := Ea4_8.keep KK37
    have Fa4_coder_37 := Fa4_coder_8.keep KK37 (ninS ne_a4_a8 nin0)
    have Fa4_value_37 := Fa4_value_8.keep KK37 (ninS ne_a4_a8 nin0)
    have Vt7_37 := Vt7_8.keep KK37 (ninS ne_t7_a8 nin0)
    have Ea8_37 := A8.keep KK37
    have K37 := K8.trans KK37 (allS (Or.inr q8) all0)
    refine own_go st37 ?_
    show own_Fin p.tables e below _ (T37.setTop (mkF m 58 #[.val (.int i1), .val (.int i2), .val (.int i3), .val (.int i4), .val (.int i5), .val (.int ((i2 &&& (127 : Int32)).toUInt32.toUInt16.toUInt32.toInt32)), .val (.int ((i3 &&& (127 : Int32)).toUInt32.toUInt16.toUInt32.toInt32)), .val (.ref a1), .val (.ref a4), .unset, .unset, .unset, .unset] [(.ref a8)]))
    refine own_go (fun _ k => XS.astore X37.here hx rfl (hb hby at_58) rfl rfl (l' := #[.val (.int i1), .val (.int i2), .val (.int i3), .val (.int i4), .val (.int i5), .val (.int ((i2 &&& (127 : Int32)).toUInt32.toUInt16.toUInt32.toInt32)), .val (.int ((i3 &&& (127 : Int32)).toUInt32.toUInt16.toUInt32.toInt32)), .val (.ref a1), .val (.ref a4), .val (.ref a8), .unset, .unset, .unset]) rfl k) ?_
    show own_Fin p.tables e below _ (T37.setTop (mkF m 60 #[.val (.int i1), .val (.int i2), .val (.int i3), .val (.int i4), .val (.int i5), .val (.int ((i2 &&& (127 : Int32)).toUInt32.toUInt16.toUInt32.toInt32)), .val (.int ((i3 &&& (127 : Int32)).toUInt32.toUInt16.toUInt32.toInt32)), .val (.ref a1), .val (.ref a4), .val (.ref a8), .unset, .unset, .unset] []))
    refine own_go (fun _ k => XS.aload X37.here hx rfl (hb hby at_60) rfl rfl k) ?_
    show own_Fin p.tables e below _ (T37.setTop (mkF m 62 #[.val (.int i1), .val (.int i2), .val (.int i3), .val (.int i4), .val (.int i5), .val (.int ((i2 &&& (127 : Int32)).toUInt32.toUInt16.toUInt32.toInt32)), .val (.int ((i3 &&& (127 : Int32)).toUInt32.toUInt16.toUInt32.toInt32)), .val (.ref a1), .val (.ref a4), .val (.ref a8), .unset, .unset, .unset] [(.ref a8)]))
    refine own_go (fun _ k => XS.iload X37.here hx rfl (hb hby at_62) rfl k) ?_
    show own_Fin p.tables e below _ (T37.setTop (mkF m 64 #[.val (.int i1), .val (.int i2), .val (.int i3), .val (.int i4), .val (.int i5), .val (.int ((i2 &&& (127 : Int32)).toUInt32.toUInt16.toUInt32.toInt32)), .val (.int ((i3 &&& (127 : Int32)).toUInt32.toUInt16.toUInt32.toInt32)), .val (.ref a1), .val (.ref a4), .val (.ref a8), .unset, .unset, .unset] [(.int ((i2 &&& (127 : Int32)).toUInt32.toUInt16.toUInt32.toInt32)), (.ref a8)]))
    obtain ⟨_, T38, L38, X38, ⟨rfl, M38, KK38, Gb38, Gl38, Ga38⟩, st38⟩ := own_callV X37 hx hZ hown (hw _ (List.mem_of_getElem? (i := 39) rfl)) (hw _ (List.mem_of_getElem? (i := 40) rfl)) (hw _ (List.mem_of_getElem? (i := 42) rfl)) (hw _ (List.mem_of_getElem? (i := 41) rfl)) (hw _ (List.mem_of_getElem? (i := 32) rfl)) (hw _ (List.mem_of_getElem? (i := 43) rfl)) (by decide) (W := 0) (rman0 l Z a0 hw [] a8 ((i2 &&& (127 : Int32)).toUInt32.toUInt16.toUInt32.toInt32) T37.heap n0 (Nat.le_trans Z0 K37.1) b37 kb37  (i1 &&& (7 : Int32)) Ea8_37 Gb37 Gl37 Ga37 z8 (Nat.le_trans Z0 (Nat.le_trans K8.1 q37)) (own_wk4_1 hz4)) (by decide) (by decide) rfl Ea8_37 (g := (mkF m 64 #[.val (.int i1), .val (.int i2), .val (.int i3), .val (.int i4), .val (.int i5), .val (.int ((i2 &&& (127 : Int32)).toUInt32.toUInt16.toUInt32.toInt32)), .val (.int ((i3 &&& (127 : Int32)).toUInt32.toUInt16.toUInt32.toInt32)), .val (.ref a1), .val (.ref a4), .val (.ref a8), .unset, .unset, .unset] [(.int ((i2 &&& (127 : Int32)).toUInt32.toUInt16.toUInt32.toInt32)), (.ref a8)])) rfl (by rw [hml]; rfl) (argsL := [(.int ((i2 &&& (127 : Int32)).toUInt32.toUInt16.toUInt32.toInt32))]) (rest := []) rfl (lenOf pd5 rfl) rfl (by show 2 * 0 + _ ≤ _; exact Nat.le_of_eq rfl) (hb hby at_64) (by decide) (by decide)
    have N38 := Fr.app N37 M38
    have O_38 := O_37.keep KK38 (allS z8 (allS (Nat.le_trans Z0 (Nat.le_trans K8.1 q37)) all0))
    have Va1_38 := Va1_37.keep KK38 (ninS ne_a1_a8 (ninS ne_a1_b37 nin0))
    have Ea4_38 := Ea4_37.keep KK38
    have Fa4_coder_38 := Fa4_coder_37.keep KK38 (ninS ne_a4_a8 (ninS ne_a4_b37 nin0))
    have Fa4_value_38 := Fa4_value_37.keep KK38 (ninS ne_a4_a8 (ninS ne_a4_b37 nin0))
    have Vt7_38 := Vt7_37.keep KK38 (ninS ne_t7_a8 (ninS ne_t7_b37 nin0))
    have Ea8_38 := Ea8_37.keep KK38
    have K38 := K37.trans KK38 (allS (Or.inr q8) (allS (Or.inr (Nat.le_trans K8.1 q37)) all0))
    refine own_go st38 ?_
    show own_Fin p.tables e below _ (T38.setTop (mkF m 67 #[.val (.int i1), .val (.int i2), .val (.int i3), .val (.int i4), .val (.int i5), .val (.int ((i2 &&& (127 : Int32)).toUInt32.toUInt16.toUInt32.toInt32)), .val (.int ((i3 &&& (127 : Int32)).toUInt32.toUInt16.toUInt32.toInt32)), .val (.ref a1), .val (.ref a4), .val (.ref a8), .unset, .unset, .unset] []))
    refine own_go (fun _ k => XS.aload X38.here hx rfl (hb hby at_67) rfl rfl k) ?_
    show own_Fin p.tables e below _ (T38.setTop (mkF m 69 #[.val (.int i1), .val (.int i2), .val (.int i3), .val (.int i4), .val (.int i5), .val (.int ((i2 &&& (127 : Int32)).toUInt32.toUInt16.toUInt32.toInt32)), .val (.int ((i3 &&& (127 : Int32)).toUInt32.toUInt16.toUInt32.toInt32)), .val (.ref a1), .val (.ref a4), .val (.ref a8), .unset, .unset, .unset] [(.ref a8)]))
    obtain ⟨_, T39, L39, X39, ⟨rfl, M39, e39⟩, st39⟩ := own_callV X38 hx hZ hown (hw _ (List.mem_of_getElem? (i := 71) rfl)) (hw _ (List.mem_of_getElem? (i := 72) rfl)) (hw _ (List.mem_of_getElem? (i := 74) rfl)) (hw _ (List.mem_of_getElem? (i := 73) rfl)) (hw _ (List.mem_of_getElem? (i := 32) rfl)) (hw _ (List.mem_of_getElem? (i := 75) rfl)) (by decide) (W := 0) (rml1 l Z a0 hw [] a8 T38.heap n0 (Nat.le_trans Z0 K38.1) b37 kb37 (nar .byte (((i2 &&& (127 : Int32)).toUInt32.toUInt16.toUInt32.toInt32).toInt8.toInt32)) (i1 &&& (7 : Int32)) Ea8_38 Gb38 Gl38 Ga38 z8 (Nat.le_trans Z0 (Nat.le_trans K8.1 q37)) (own_wk4_1 hz4)) (by decide) (by decide) rfl Ea8_38 (g := (mkF m 69 #[.val (.int i1), .val (.int i2), .val (.int i3), .val (.int i4), .val (.int i5), .val (.int ((i2 &&& (127 : Int32)).toUInt32.toUInt16.toUInt32.toInt32)), .val (.int ((i3 &&& (127 : Int32)).toUInt32.toUInt16.toUInt32.toInt32)), .val (.ref a1), .val (.ref a4), .val (.ref a8), .unset, .unset, .unset] [(.ref a8)])) rfl (by rw [hml]; rfl) (argsL := []) (rest := []) rfl (lenOf pd6 rfl) rfl (by show 2 * 0 + _ ≤ _; exact Nat.le_of_eq rfl) (hb hby at_69) (by decide) (by decide)
    have N39 := Fr.app N38 M39
    refine own_go st39 ?_
    show own_Fin p.tables e below _ (T39.setTop (mkF m 72 #[.val (.int i1), .val (.int i2), .val (.int i3), .val (.int i4), .val (.int i5), .val (.int ((i2 &&& (127 : Int32)).toUInt32.toUInt16.toUInt32.toInt32)), .val (.int ((i3 &&& (127 : Int32)).toUInt32.toUInt16.toUInt32.toInt32)), .val (.ref a1), .val (.ref a4), .val (.ref a8), .unset, .unset, .unset] [(.int (nar .byte (nar .byte (((i2 &&& (127 : Int32)).toUInt32.toUInt16.toUInt32.toInt32).toInt8.toInt32))))]))
    refine own_go (fun _ k => XS.iload X39.here hx rfl (hb hby at_72) rfl k) ?_
    show own_Fin p.tables e below _ (T39.setTop (mkF m 74 #[.val (.int i1), .val (.int i2), .val (.int i3), .val (.int i4), .val (.int i5), .val (.int ((i2 &&& (127 : Int32)).toUInt32.toUInt16.toUInt32.toInt32)), .val (.int ((i3 &&& (127 : Int32)).toUInt32.toUInt16.toUInt32.toInt32)), .val (.ref a1), .val (.ref a4), .val (.ref a8), .unset, .unset, .unset] [(.int ((i2 &&& (127 : Int32)).toUInt32.toUInt16.toUInt32.toInt32)), (.int (nar .byte (nar .byte (((i2 &&& (127 : Int32)).toUInt32.toUInt16.toUInt32.toInt32).toInt8.toInt32))))]))
    refine own_go (fun _ k => XT.i2b X39.here hx rfl (hb hby at_74) rfl k) ?_
    show own_Fin p.tables e below _ (T39.setTop (mkF m 75 #[.val (.int i1), .val (.int i2), .val (.int i3), .val (.int i4), .val (.int i5), .val (.int ((i2 &&& (127 : Int32)).toUInt32.toUInt16.toUInt32.toInt32)), .val (.int ((i3 &&& (127 : Int32)).toUInt32.toUInt16.toUInt32.toInt32)), .val (.ref a1), .val (.ref a4), .val (.ref a8), .unset, .unset, .unset] [(.int (((i2 &&& (127 : Int32)).toUInt32.toUInt16.toUInt32.toInt32).toInt8.toInt32)), (.int (nar .byte (nar .byte (((i2 &&& (127 : Int32)).toUInt32.toUInt16.toUInt32.toInt32).toInt8.toInt32))))]))
    refine own_go (fun _ k => XS.icmpNo X39.here hx rfl (hb hby at_75) rfl (XT.ii_ne_f (by simp only [own_narb])) k) ?_
    show own_Fin p.tables e below _ (T39.setTop (mkF m 78 #[.val (.int i1), .val (.int i2), .val (.int i3), .val (.int i4), .val (.int i5), .val (.int ((i2 &&& (127 : Int32)).toUInt32.toUInt16.toUInt32.toInt32)), .val (.int ((i3 &&& (127 : Int32)).toUInt32.toUInt16.toUInt32.toInt32)), .val (.ref a1), .val (.ref a4), .val (.ref a8), .unset, .unset, .unset] []))
    refine own_go (fun _ k => XT.iconstV X39.here hx rfl (1 : Int32) (hb hby at_78) (by decide) k) ?_
    show own_Fin p.tables e below _ (T39.setTop (mkF m 79 #[.val (.int i1), .val (.int i2), .val (.int i3), .val (.int i4), .val (.int i5), .val (.int ((i2 &&& (127 : Int32)).toUInt32.toUInt16.toUInt32.toInt32)), .val (.int ((i3 &&& (127 : Int32)).toUInt32.toUInt16.toUInt32.toInt32)), .val (.ref a1), .val (.ref a4), .val (.ref a8), .unset, .unset, .unset] [(.int (1 : Int32))]))
    refine own_go (fun _ k => XS.goto X39.here hx rfl (pc0 := 79) (pc' := 83) rfl (hb hby at_79) (by decide) (by decide) k) ?_
    show own_Fin p.tables e below _ (T39.setTop (mkF m 83 #[.val (.int i1), .val (.int i2), .val (.int i3), .val (.int i4), .val (.int i5), .val (.int ((i2 &&& (127 : Int32)).toUInt32.toUInt16.toUInt32.toInt32)), .val (.int ((i3 &&& (127 : Int32)).toUInt32.toUInt16.toUInt32.toInt32)), .val (.ref a1), .val (.ref a4), .val (.ref a8), .unset, .unset, .unset] [(.int (1 : Int32))]))
    refine own_go (fun _ k => XS.istore X39.here hx rfl (hb hby at_83) rfl (l' := #[.val (.int i1), .val (.int i2), .val (.int i3), .val (.int i4), .val (.int i5), .val (.int ((i2 &&& (127 : Int32)).toUInt32.toUInt16.toUInt32.toInt32)), .val (.int ((i3 &&& (127 : Int32)).toUInt32.toUInt16.toUInt32.toInt32)), .val (.ref a1), .val (.ref a4), .val (.ref a8), .val (.int (1 : Int32)), .unset, .unset]) rfl k) ?_
    show own_Fin p.tables e below _ (T39.setTop (mkF m 85 #[.val (.int i1), .val (.int i2), .val (.int i3), .val (.int i4), .val (.int i5), .val (.int ((i2 &&& (127 : Int32)).toUInt32.toUInt16.toUInt32.toInt32)), .val (.int ((i3 &&& (127 : Int32)).toUInt32.toUInt16.toUInt32.toInt32)), .val (.ref a1), .val (.ref a4), .val (.ref a8), .val (.int (1 : Int32)), .unset, .unset] []))
    refine own_go (fun _ k => XS.aload X39.here hx rfl (hb hby at_85) rfl rfl k) ?_
    show own_Fin p.tables e below _ (T39.setTop (mkF m 87 #[.val (.int i1), .val (.int i2), .val (.int i3), .val (.int i4), .val (.int i5), .val (.int ((i2 &&& (127 : Int32)).toUInt32.toUInt16.toUInt32.toInt32)), .val (.int ((i3 &&& (127 : Int32)).toUInt32.toUInt16.toUInt32.toInt32)), .val (.ref a1), .val (.ref a4), .val (.ref a8), .val (.int (1 : Int32)), .unset, .unset] [(.ref a8)]))
    refine own_go (fun _ k => XS.iload X39.here hx rfl (hb hby at_87) rfl k) ?_
    show own_Fin p.tables e below _ (T39.setTop (mkF m 89 #[.val (.int i1), .val (.int i2), .val (.int i3), .val (.int i4), .val (.int i5), .val (.int ((i2 &&& (127 : Int32)).toUInt32.toUInt16.toUInt32.toInt32)), .val (.int ((i3 &&& (127 : Int32)).toUInt32.toUInt16.toUInt32.toInt32)), .val (.ref a1), .val (.ref a4), .val (.ref a8), .val (.int (1 : Int32)), .unset, .unset] [(.int ((i3 &&& (127 : Int32)).toUInt32.toUInt16.toUInt32.toInt32)), (.ref a8)]))
    obtain ⟨_, T40, L40, X40, ⟨rfl, M40, KK40, Gb40, Gl40, Ga40⟩, st40⟩ := own_callV X39 hx hZ hown (hw _ (List.mem_of_getElem? (i := 39) rfl)) (hw _ (List.mem_of_getElem? (i := 40) rfl)) (hw _ (List.mem_of_getElem? (i := 42) rfl)) (hw _ (List.mem_of_getElem? (i := 41) rfl)) (hw _ (List.mem_of_getElem? (i := 32) rfl)) (hw _ (List.mem_of_getElem? (i := 43) rfl)) (by decide) (W := 0) (rman1 l Z a0 hw [] a8 ((i3 &&& (127 : Int32)).toUInt32.toUInt16.toUInt32.toInt32) T38.heap n0 (Nat.le_trans Z0 K38.1) b37 kb37 (nar .byte (((i2 &&& (127 : Int32)).toUInt32.toUInt16.toUInt32.toInt32).toInt8.toInt32)) (i1 &&& (7 : Int32)) Ea8_38 Gb38 Gl38 Ga38 z8 (Nat.le_trans Z0 (Nat.le_trans K8.1 q37)) (own_wk4_2 hz4)) (by decide) (by decide) e39 Ea8_38 (g := (mkF m 89 #[.val (.int i1), .val (.int i2), .val (.int i3), .val (.int i4), .val (.int i5), .val (.int ((i2 &&& (127 : Int32)).toUInt32.toUInt16.toUInt32.toInt32)), .val (.int ((i3 &&& (127 : Int32)).toUInt32.toUInt16.toUInt32.toInt32)), .val (.ref a1), .val (.ref a4), .val (.ref a8), .val (.int (1 : Int32)), .unset, .unset] [(.int ((i3 &&& (127 : Int32)).toUInt32.toUInt16.toUInt32.toInt32)), (.ref a8)])) rfl (by rw [hml]; rfl) (argsL := [(.int ((i3 &&& (127 : Int32)).toUInt32.toUInt16.toUInt32.toInt32))]) (rest := []) rfl (lenOf pd5 rfl) rfl (by show 2 * 0 + _ ≤ _; exact Nat.le_of_eq rfl) (hb hby at_89) (by decide) (by decide)
    have N40 := Fr.app N39 M40
    have O_40 := O_38.keep KK40 (allS z8 (allS (Nat.le_trans Z0 (Nat.le_trans K8.1 q37)) all0))
    have Va1_40 := Va1_38.keep KK40 (ninS ne_a1_a8 (ninS ne_a1_b37 nin0))
    have Ea4_40 := Ea4_38.keep KK40
    have Fa4_coder_40 := Fa4_coder_38.keep KK40 (ninS ne_a4_a8 (ninS ne_a4_b37 nin0))
    have Fa4_value_40 := Fa4_value_38.keep KK40 (ninS ne_a4_a8 (ninS ne_a4_b37 nin0))
    have Vt7_40 := Vt7_38.keep KK40 (ninS ne_t7_a8 (ninS ne_t7_b37 nin0))
    have Ea8_40 := Ea8_38.keep KK40
    have K40 := K38.trans KK40 (allS (Or.inr q8) (allS (Or.inr (Nat.le_trans K8.1 q37)) all0))
    refine own_go st40 ?_
    show own_Fin p.tables e below _ (T40.setTop (mkF m 92 #[.val (.int i1), .val (.int i2), .val (.int i3), .val (.int i4), .val (.int i5), .val (.int ((i2 &&& (127 : Int32)).toUInt32.toUInt16.toUInt32.toInt32)), .val (.int ((i3 &&& (127 : Int32)).toUInt32.toUInt16.toUInt32.toInt32)), .val (.ref a1), .val (.ref a4), .val (.ref a8), .val (.int (1 : Int32)), .unset, .unset] []))
    refine own_go (fun _ k => XS.aload X40.here hx rfl (hb hby at_92) rfl rfl k) ?_
    show own_Fin p.tables e below _ (T40.setTop (mkF m 94 #[.val (.int i1), .val (.int i2), .val (.int i3), .val (.int i4), .val (.int i5), .val (.int ((i2 &&& (127 : Int32)).toUInt32.toUInt16.toUInt32.toInt32)), .val (.int ((i3 &&& (127 : Int32)).toUInt32.toUInt16.toUInt32.toInt32)), .val (.ref a1), .val (.ref a4), .val (.ref a8), .val (.int (1 : Int32)), .unset, .unset] [(.ref a8)]))
    obtain ⟨_, T41, L41, X41, ⟨rfl, M41, e41⟩, st41⟩ := own_callV X40 hx hZ hown (hw _ (List.mem_of_getElem? (i := 71) rfl)) (hw _ (List.mem_of_getElem? (i := 72) rfl)) (hw _ (List.mem_of_getElem? (i := 74) rfl)) (hw _ (List.mem_of_getElem? (i := 73) rfl)) (hw _ (List.mem_of_getElem? (i := 32) rfl)) (hw _ (List.mem_of_getElem? (i := 75) rfl)) (by decide) (W := 0) (rml2 l Z a0 hw [] a8 T40.heap n0 (Nat.le_trans Z0 K40.1) b37 kb37 (nar .byte (((i2 &&& (127 : Int32)).toUInt32.toUInt16.toUInt32.toInt32).toInt8.toInt32)) (nar .byte (((i3 &&& (127 : Int32)).toUInt32.toUInt16.toUInt32.toInt32).toInt8.toInt32)) (i1 &&& (7 : Int32)) Ea8_40 Gb40 Gl40 Ga40 z8 (Nat.le_trans Z0 (Nat.le_trans K8.1 q37)) (own_wk4_2 hz4)) (by decide) (by decide) rfl Ea8_40 (g := (mkF m 94 #[.val (.int i1), .val (.int i2), .val (.int i3), .val (.int i4), .val (.int i5), .val (.int ((i2 &&& (127 : Int32)).toUInt32.toUInt16.toUInt32.toInt32)), .val (.int ((i3 &&& (127 : Int32)).toUInt32.toUInt16.toUInt32.toInt32)), .val (.ref a1), .val (.ref a4), .val (.ref a8), .val (.int (1 : Int32)), .unset, .unset] [(.ref a8)])) rfl (by rw [hml]; rfl) (argsL := []) (rest := []) rfl (lenOf pd6 rfl) rfl (by show 2 * 0 + _ ≤ _; exact Nat.le_of_eq rfl) (hb hby at_94) (by decide) (by decide)
    have N41 := Fr.app N40 M41
    refine own_go st41 ?_
    show own_Fin p.tables e below _ (T41.setTop (mkF m 97 #[.val (.int i1), .val (.int i2), .val (.int i3), .val (.int i4), .val (.int i5), .val (.int ((i2 &&& (127 : Int32)).toUInt32.toUInt16.toUInt32.toInt32)), .val (.int ((i3 &&& (127 : Int32)).toUInt32.toUInt16.toUInt32.toInt32)), .val (.ref a1), .val (.ref a4), .val (.ref a8), .val (.int (1 : Int32)), .unset, .unset] [(.int (nar .byte (nar .byte (((i3 &&& (127 : Int32)).toUInt32.toUInt16.toUInt32.toInt32).toInt8.toInt32))))]))
    refine own_go (fun _ k => XS.iload X41.here hx rfl (hb hby at_97) rfl k) ?_
    show own_Fin p.tables e below _ (T41.setTop (mkF m 99 #[.val (.int i1), .val (.int i2), .val (.int i3), .val (.int i4), .val (.int i5), .val (.int ((i2 &&& (127 : Int32)).toUInt32.toUInt16.toUInt32.toInt32)), .val (.int ((i3 &&& (127 : Int32)).toUInt32.toUInt16.toUInt32.toInt32)), .val (.ref a1), .val (.ref a4), .val (.ref a8), .val (.int (1 : Int32)), .unset, .unset] [(.int ((i3 &&& (127 : Int32)).toUInt32.toUInt16.toUInt32.toInt32)), (.int (nar .byte (nar .byte (((i3 &&& (127 : Int32)).toUInt32.toUInt16.toUInt32.toInt32).toInt8.toInt32))))]))
    refine own_go (fun _ k => XT.i2b X41.here hx rfl (hb hby at_99) rfl k) ?_
    show own_Fin p.tables e below _ (T41.setTop (mkF m 100 #[.val (.int i1), .val (.int i2), .val (.int i3), .val (.int i4), .val (.int i5), .val (.int ((i2 &&& (127 : Int32)).toUInt32.toUInt16.toUInt32.toInt32)), .val (.int ((i3 &&& (127 : Int32)).toUInt32.toUInt16.toUInt32.toInt32)), .val (.ref a1), .val (.ref a4), .val (.ref a8), .val (.int (1 : Int32)), .unset, .unset] [(.int (((i3 &&& (127 : Int32)).toUInt32.toUInt16.toUInt32.toInt32).toInt8.toInt32)), (.int (nar .byte (nar .byte (((i3 &&& (127 : Int32)).toUInt32.toUInt16.toUInt32.toInt32).toInt8.toInt32))))]))
    refine own_go (fun _ k => XS.icmpNo X41.here hx rfl (hb hby at_100) rfl (XT.ii_ne_f (by simp only [own_narb])) k) ?_
    show own_Fin p.tables e below _ (T41.setTop (mkF m 103 #[.val (.int i1), .val (.int i2), .val (.int i3), .val (.int i4), .val (.int i5), .val (.int ((i2 &&& (127 : Int32)).toUInt32.toUInt16.toUInt32.toInt32)), .val (.int ((i3 &&& (127 : Int32)).toUInt32.toUInt16.toUInt32.toInt32)), .val (.ref a1), .val (.ref a4), .val (.ref a8), .val (.int (1 : Int32)), .unset, .unset] []))
    refine own_go (fun _ k => XT.iconstV X41.here hx rfl (1 : Int32) (hb hby at_103) (by decide) k) ?_
    show own_Fin p.tables e below _ (T41.setTop (mkF m 104 #[.val (.int i1), .val (.int i2), .val (.int i3), .val (.int i4), .val (.int i5), .val (.int ((i2 &&& (127 : Int32)).toUInt32.toUInt16.toUInt32.toInt32)), .val (.int ((i3 &&& (127 : Int32)).toUInt32.toUInt16.toUInt32.toInt32)), .val (.ref a1), .val (.ref a4), .val (.ref a8), .val (.int (1 : Int32)), .unset, .unset] [(.int (1 : Int32))]))
    refine own_go (fun _ k => XS.goto X41.here hx rfl (pc0 := 104) (pc' := 108) rfl (hb hby at_104) (by decide) (by decide) k) ?_
    show own_Fin p.tables e below _ (T41.setTop (mkF m 108 #[.val (.int i1), .val (.int i2), .val (.int i3), .val (.int i4), .val (.int i5), .val (.int ((i2 &&& (127 : Int32)).toUInt32.toUInt16.toUInt32.toInt32)), .val (.int ((i3 &&& (127 : Int32)).toUInt32.toUInt16.toUInt32.toInt32)), .val (.ref a1), .val (.ref a4), .val (.ref a8), .val (.int (1 : Int32)), .unset, .unset] [(.int (1 : Int32))]))
    refine own_go (fun _ k => XS.istore X41.here hx rfl (hb hby at_108) rfl (l' := #[.val (.int i1), .val (.int i2), .val (.int i3), .val (.int i4), .val (.int i5), .val (.int ((i2 &&& (127 : Int32)).toUInt32.toUInt16.toUInt32.toInt32)), .val (.int ((i3 &&& (127 : Int32)).toUInt32.toUInt16.toUInt32.toInt32)), .val (.ref a1), .val (.ref a4), .val (.ref a8), .val (.int (1 : Int32)), .val (.int (1 : Int32)), .unset]) rfl k) ?_
    show own_Fin p.tables e below _ (T41.setTop (mkF m 110 #[.val (.int i1), .val (.int i2), .val (.int i3), .val (.int i4), .val (.int i5), .val (.int ((i2 &&& (127 : Int32)).toUInt32.toUInt16.toUInt32.toInt32)), .val (.int ((i3 &&& (127 : Int32)).toUInt32.toUInt16.toUInt32.toInt32)), .val (.ref a1), .val (.ref a4), .val (.ref a8), .val (.int (1 : Int32)), .val (.int (1 : Int32)), .unset] []))
    refine own_go (fun _ k => XS.aload X41.here hx rfl (hb hby at_110) rfl rfl k) ?_
    show own_Fin p.tables e below _ (T41.setTop (mkF m 112 #[.val (.int i1), .val (.int i2), .val (.int i3), .val (.int i4), .val (.int i5), .val (.int ((i2 &&& (127 : Int32)).toUInt32.toUInt16.toUInt32.toInt32)), .val (.int ((i3 &&& (127 : Int32)).toUInt32.toUInt16.toUInt32.toInt32)), .val (.ref a1), .val (.ref a4), .val (.ref a8), .val (.int (1 : Int32)), .val (.int (1 : Int32)), .unset] [(.ref a8)]))
    refine own_go (fun _ k => XS.aload X41.here hx rfl (hb hby at_112) rfl rfl k) ?_
    show own_Fin p.tables e below _ (T41.setTop (mkF m 114 #[.val (.int i1), .val (.int i2), .val (.int i3), .val (.int i4), .val (.int i5), .val (.int ((i2 &&& (127 : Int32)).toUInt32.toUInt16.toUInt32.toInt32)), .val (.int ((i3 &&& (127 : Int32)).toUInt32.toUInt16.toUInt32.toInt32)), .val (.ref a1), .val (.ref a4), .val (.ref a8), .val (.int (1 : Int32)), .val (.int (1 : Int32)), .unset] [(.ref a4), (.ref a8)]))
    obtain ⟨_, T42, L42, X42, ⟨rfl, M42, KK42, Gb42, Gl42, Ga42⟩, st42⟩ := own_callV X41 hx hZ hown (hw _ (List.mem_of_getElem? (i := 76) rfl)) (hw _ (List.mem_of_getElem? (i := 77) rfl)) (hw _ (List.mem_of_getElem? (i := 79) rfl)) (hw _ (List.mem_of_getElem? (i := 78) rfl)) (hw _ (List.mem_of_getElem? (i := 32) rfl)) (hw _ (List.mem_of_getElem? (i := 80) rfl)) (by decide) (W := 0) (rmxn l Z a0 hw [] a8 a4 T40.heap n0 (Nat.le_trans Z0 K40.1) b37 kb37 (nar .byte (((i2 &&& (127 : Int32)).toUInt32.toUInt16.toUInt32.toInt32).toInt8.toInt32)) (nar .byte (((i3 &&& (127 : Int32)).toUInt32.toUInt16.toUInt32.toInt32).toInt8.toInt32)) (i1 &&& (7 : Int32)) Ea8_40 Gb40 Gl40 Ga40 z8 (Nat.le_trans Z0 (Nat.le_trans K8.1 q37)) hz4 t7 kb7 ((nar .char ((i4 &&& (127 : Int32)).toUInt32.toUInt16.toUInt32.toInt32)).toInt8.toInt32) ((nar .char ((i5 &&& (127 : Int32)).toUInt32.toUInt16.toUInt32.toInt32)).toInt8.toInt32) Ea4_40 Fa4_value_40 Fa4_coder_40 Vt7_40 ne_t7_b37 ic SC hz O_40 fm SF rf) (by decide) (by decide) e41 Ea8_40 (g := (mkF m 114 #[.val (.int i1), .val (.int i2), .val (.int i3), .val (.int i4), .val (.int i5), .val (.int ((i2 &&& (127 : Int32)).toUInt32.toUInt16.toUInt32.toInt32)), .val (.int ((i3 &&& (127 : Int32)).toUInt32.toUInt16.toUInt32.toInt32)), .val (.ref a1), .val (.ref a4), .val (.ref a8), .val (.int (1 : Int32)), .val (.int (1 : Int32)), .unset] [(.ref a4), (.ref a8)])) rfl (by rw [hml]; rfl) (argsL := [(.ref a4)]) (rest := []) rfl (lenOf pd16 rfl) rfl (by show 2 * 0 + _ ≤ _; exact Nat.le_of_eq rfl) (hb hby at_114) (by decide) (by decide)
    have N42 := Fr.app N41 M42
    have O_42 := O_40.keep KK42 (allS z8 (allS (Nat.le_trans Z0 (Nat.le_trans K8.1 q37)) all0))
    have Va1_42 := Va1_40.keep KK42 (ninS ne_a1_a8 (ninS ne_a1_b37 nin0))
    have Ea4_42 := Ea4_40.keep KK42
    have Fa4_coder_42 := Fa4_coder_40.keep KK42 (ninS ne_a4_a8 (ninS ne_a4_b37 nin0))
    have Fa4_value_42 := Fa4_value_40.keep KK42 (ninS ne_a4_a8 (ninS ne_a4_b37 nin0))
    have Vt7_42 := Vt7_40.keep KK42 (ninS ne_t7_a8 (ninS ne_t7_b37 nin0))
    have Ea8_42 := Ea8_40.keep KK42
    have K42 := K40.trans KK42 (allS (Or.inr q8) (allS (Or.inr (Nat.le_trans K8.1 q37)) all0))
    refine own_go st42 ?_
    show own_Fin p.tables e below _ (T42.setTop (mkF m 117 #[.val (.int i1), .val (.int i2), .val (.int i3), .val (.int i4), .val (.int i5), .val (.int ((i2 &&& (127 : Int32)).toUInt32.toUInt16.toUInt32.toInt32)), .val (.int ((i3 &&& (127 : Int32)).toUInt32.toUInt16.toUInt32.toInt32)), .val (.ref a1), .val (.ref a4), .val (.ref a8), .val (.int (1 : Int32)), .val (.int (1 : Int32)), .unset] []))
    refine own_go (fun _ k => XS.aload X42.here hx rfl (hb hby at_117) rfl rfl k) ?_
    show own_Fin p.tables e below _ (T42.setTop (mkF m 119 #[.val (.int i1), .val (.int i2), .val (.int i3), .val (.int i4), .val (.int i5), .val (.int ((i2 &&& (127 : Int32)).toUInt32.toUInt16.toUInt32.toInt32)), .val (.int ((i3 &&& (127 : Int32)).toUInt32.toUInt16.toUInt32.toInt32)), .val (.ref a1), .val (.ref a4), .val (.ref a8), .val (.int (1 : Int32)), .val (.int (1 : Int32)), .unset] [(.ref a8)]))
    obtain ⟨_, T43, L43, X43, ⟨rfl, M43, e43⟩, st43⟩ := own_callV X42 hx hZ hown (hw _ (List.mem_of_getElem? (i := 71) rfl)) (hw _ (List.mem_of_getElem? (i := 72) rfl)) (hw _ (List.mem_of_getElem? (i := 74) rfl)) (hw _ (List.mem_of_getElem? (i := 73) rfl)) (hw _ (List.mem_of_getElem? (i := 32) rfl)) (hw _ (List.mem_of_getElem? (i := 75) rfl)) (by decide) (W := 0) (rml4 l Z a0 hw [] a8 T42.heap n0 (Nat.le_trans Z0 K42.1) b37 kb37 (nar .byte (((i2 &&& (127 : Int32)).toUInt32.toUInt16.toUInt32.toInt32).toInt8.toInt32)) (nar .byte (((i3 &&& (127 : Int32)).toUInt32.toUInt16.toUInt32.toInt32).toInt8.toInt32)) ((nar .char ((i4 &&& (127 : Int32)).toUInt32.toUInt16.toUInt32.toInt32)).toInt8.toInt32) ((nar .char ((i5 &&& (127 : Int32)).toUInt32.toUInt16.toUInt32.toInt32)).toInt8.toInt32) (i1 &&& (7 : Int32)) Ea8_42 Gb42 Gl42 Ga42 z8 (Nat.le_trans Z0 (Nat.le_trans K8.1 q37)) hz4) (by decide) (by decide) rfl Ea8_42 (g := (mkF m 119 #[.val (.int i1), .val (.int i2), .val (.int i3), .val (.int i4), .val (.int i5), .val (.int ((i2 &&& (127 : Int32)).toUInt32.toUInt16.toUInt32.toInt32)), .val (.int ((i3 &&& (127 : Int32)).toUInt32.toUInt16.toUInt32.toInt32)), .val (.ref a1), .val (.ref a4), .val (.ref a8), .val (.int (1 : Int32)), .val (.int (1 : Int32)), .unset] [(.ref a8)])) rfl (by rw [hml]; rfl) (argsL := []) (rest := []) rfl (lenOf pd6 rfl) rfl (by show 2 * 0 + _ ≤ _; exact Nat.le_of_eq rfl) (hb hby at_119) (by decide) (by decide)
    have N43 := Fr.app N42 M43
    refine own_go st43 ?_
    show own_Fin p.tables e below _ (T43.setTop (mkF m 122 #[.val (.int i1), .val (.int i2), .val (.int i3), .val (.int i4), .val (.int i5), .val (.int ((i2 &&& (127 : Int32)).toUInt32.toUInt16.toUInt32.toInt32)), .val (.int ((i3 &&& (127 : Int32)).toUInt32.toUInt16.toUInt32.toInt32)), .val (.ref a1), .val (.ref a4), .val (.ref a8), .val (.int (1 : Int32)), .val (.int (1 : Int32)), .unset] [(.int (nar .byte ((nar .char ((i5 &&& (127 : Int32)).toUInt32.toUInt16.toUInt32.toInt32)).toInt8.toInt32)))]))
    refine own_go (fun _ k => XS.aload X43.here hx rfl (hb hby at_122) rfl rfl k) ?_
    show own_Fin p.tables e below _ (T43.setTop (mkF m 124 #[.val (.int i1), .val (.int i2), .val (.int i3), .val (.int i4), .val (.int i5), .val (.int ((i2 &&& (127 : Int32)).toUInt32.toUInt16.toUInt32.toInt32)), .val (.int ((i3 &&& (127 : Int32)).toUInt32.toUInt16.toUInt32.toInt32)), .val (.ref a1), .val (.ref a4), .val (.ref a8), .val (.int (1 : Int32)), .val (.int (1 : Int32)), .unset] [(.ref a1), (.int (nar .byte ((nar .char ((i5 &&& (127 : Int32)).toUInt32.toUInt16.toUInt32.toInt32)).toInt8.toInt32)))]))
    refine own_go (fun _ k => XT.iconstV X43.here hx rfl (1 : Int32) (hb hby at_124) (by decide) k) ?_
    show own_Fin p.tables e below _ (T43.setTop (mkF m 125 #[.val (.int i1), .val (.int i2), .val (.int i3), .val (.int i4), .val (.int i5), .val (.int ((i2 &&& (127 : Int32)).toUInt32.toUInt16.toUInt32.toInt32)), .val (.int ((i3 &&& (127 : Int32)).toUInt32.toUInt16.toUInt32.toInt32)), .val (.ref a1), .val (.ref a4), .val (.ref a8), .val (.int (1 : Int32)), .val (.int (1 : Int32)), .unset] [(.int (1 : Int32)), (.ref a1), (.int (nar .byte ((nar .char ((i5 &&& (127 : Int32)).toUInt32.toUInt16.toUInt32.toInt32)).toInt8.toInt32)))]))
    refine own_go (fun _ k => own_cald X43 hx hZ e43 Va1_42 (j := (1 : Int32)) (by decide) (by decide) (g := (mkF m 125 #[.val (.int i1), .val (.int i2), .val (.int i3), .val (.int i4), .val (.int i5), .val (.int ((i2 &&& (127 : Int32)).toUInt32.toUInt16.toUInt32.toInt32)), .val (.int ((i3 &&& (127 : Int32)).toUInt32.toUInt16.toUInt32.toInt32)), .val (.ref a1), .val (.ref a4), .val (.ref a8), .val (.int (1 : Int32)), .val (.int (1 : Int32)), .unset] [(.int (1 : Int32)), (.ref a1), (.int (nar .byte ((nar .char ((i5 &&& (127 : Int32)).toUInt32.toUInt16.toUInt32.toInt32)).toInt8.toInt32)))])) rfl (rest := [(.int (nar .byte ((nar .char ((i5 &&& (127 : Int32)).toUInt32.toUInt16.toUInt32.toInt32)).toInt8.toInt32)))]) rfl (hb hby at_125) k) ?_
    show own_Fin p.tables e below _ (T43.setTop (mkF m 126 #[.val (.int i1), .val (.int i2), .val (.int i3), .val (.int i4), .val (.int i5), .val (.int ((i2 &&& (127 : Int32)).toUInt32.toUInt16.toUInt32.toInt32)), .val (.int ((i3 &&& (127 : Int32)).toUInt32.toUInt16.toUInt32.toInt32)), .val (.ref a1), .val (.ref a4), .val (.ref a8), .val (.int (1 : Int32)), .val (.int (1 : Int32)), .unset] [(.int (nar .char ((i5 &&& (127 : Int32)).toUInt32.toUInt16.toUInt32.toInt32))), (.int (nar .byte ((nar .char ((i5 &&& (127 : Int32)).toUInt32.toUInt16.toUInt32.toInt32)).toInt8.toInt32)))]))
    refine own_go (fun _ k => XT.i2b X43.here hx rfl (hb hby at_126) rfl k) ?_
    show own_Fin p.tables e below _ (T43.setTop (mkF m 127 #[.val (.int i1), .val (.int i2), .val (.int i3), .val (.int i4), .val (.int i5), .val (.int ((i2 &&& (127 : Int32)).toUInt32.toUInt16.toUInt32.toInt32)), .val (.int ((i3 &&& (127 : Int32)).toUInt32.toUInt16.toUInt32.toInt32)), .val (.ref a1), .val (.ref a4), .val (.ref a8), .val (.int (1 : Int32)), .val (.int (1 : Int32)), .unset] [(.int ((nar .char ((i5 &&& (127 : Int32)).toUInt32.toUInt16.toUInt32.toInt32)).toInt8.toInt32)), (.int (nar .byte ((nar .char ((i5 &&& (127 : Int32)).toUInt32.toUInt16.toUInt32.toInt32)).toInt8.toInt32)))]))
    refine own_go (fun _ k => XS.icmpNo X43.here hx rfl (hb hby at_127) rfl (XT.ii_ne_f (by simp only [own_narb])) k) ?_
    show own_Fin p.tables e below _ (T43.setTop (mkF m 130 #[.val (.int i1), .val (.int i2), .val (.int i3), .val (.int i4), .val (.int i5), .val (.int ((i2 &&& (127 : Int32)).toUInt32.toUInt16.toUInt32.toInt32)), .val (.int ((i3 &&& (127 : Int32)).toUInt32.toUInt16.toUInt32.toInt32)), .val (.ref a1), .val (.ref a4), .val (.ref a8), .val (.int (1 : Int32)), .val (.int (1 : Int32)), .unset] []))
    refine own_go (fun _ k => XT.iconstV X43.here hx rfl (1 : Int32) (hb hby at_130) (by decide) k) ?_
    show own_Fin p.tables e below _ (T43.setTop (mkF m 131 #[.val (.int i1), .val (.int i2), .val (.int i3), .val (.int i4), .val (.int i5), .val (.int ((i2 &&& (127 : Int32)).toUInt32.toUInt16.toUInt32.toInt32)), .val (.int ((i3 &&& (127 : Int32)).toUInt32.toUInt16.toUInt32.toInt32)), .val (.ref a1), .val (.ref a4), .val (.ref a8), .val (.int (1 : Int32)), .val (.int (1 : Int32)), .unset] [(.int (1 : Int32))]))
    refine own_go (fun _ k => XS.goto X43.here hx rfl (pc0 := 131) (pc' := 135) rfl (hb hby at_131) (by decide) (by decide) k) ?_
    show own_Fin p.tables e below _ (T43.setTop (mkF m 135 #[.val (.int i1), .val (.int i2), .val (.int i3), .val (.int i4), .val (.int i5), .val (.int ((i2 &&& (127 : Int32)).toUInt32.toUInt16.toUInt32.toInt32)), .val (.int ((i3 &&& (127 : Int32)).toUInt32.toUInt16.toUInt32.toInt32)), .val (.ref a1), .val (.ref a4), .val (.ref a8), .val (.int (1 : Int32)), .val (.int (1 : Int32)), .unset] [(.int (1 : Int32))]))
    refine own_go (fun _ k => XS.istore X43.here hx rfl (hb hby at_135) rfl (l' := #[.val (.int i1), .val (.int i2), .val (.int i3), .val (.int i4), .val (.int i5), .val (.int ((i2 &&& (127 : Int32)).toUInt32.toUInt16.toUInt32.toInt32)), .val (.int ((i3 &&& (127 : Int32)).toUInt32.toUInt16.toUInt32.toInt32)), .val (.ref a1), .val (.ref a4), .val (.ref a8), .val (.int (1 : Int32)), .val (.int (1 : Int32)), .val (.int (1 : Int32))]) rfl k) ?_
    show own_Fin p.tables e below _ (T43.setTop (mkF m 137 #[.val (.int i1), .val (.int i2), .val (.int i3), .val (.int i4), .val (.int i5), .val (.int ((i2 &&& (127 : Int32)).toUInt32.toUInt16.toUInt32.toInt32)), .val (.int ((i3 &&& (127 : Int32)).toUInt32.toUInt16.toUInt32.toInt32)), .val (.ref a1), .val (.ref a4), .val (.ref a8), .val (.int (1 : Int32)), .val (.int (1 : Int32)), .val (.int (1 : Int32))] []))
    refine own_go (fun _ k => XS.iload X43.here hx rfl (hb hby at_137) rfl k) ?_
    show own_Fin p.tables e below _ (T43.setTop (mkF m 139 #[.val (.int i1), .val (.int i2), .val (.int i3), .val (.int i4), .val (.int i5), .val (.int ((i2 &&& (127 : Int32)).toUInt32.toUInt16.toUInt32.toInt32)), .val (.int ((i3 &&& (127 : Int32)).toUInt32.toUInt16.toUInt32.toInt32)), .val (.ref a1), .val (.ref a4), .val (.ref a8), .val (.int (1 : Int32)), .val (.int (1 : Int32)), .val (.int (1 : Int32))] [(.int (1 : Int32))]))
    refine own_go (fun _ k => XS.iload X43.here hx rfl (hb hby at_139) rfl k) ?_
    show own_Fin p.tables e below _ (T43.setTop (mkF m 141 #[.val (.int i1), .val (.int i2), .val (.int i3), .val (.int i4), .val (.int i5), .val (.int ((i2 &&& (127 : Int32)).toUInt32.toUInt16.toUInt32.toInt32)), .val (.int ((i3 &&& (127 : Int32)).toUInt32.toUInt16.toUInt32.toInt32)), .val (.ref a1), .val (.ref a4), .val (.ref a8), .val (.int (1 : Int32)), .val (.int (1 : Int32)), .val (.int (1 : Int32))] [(.int (1 : Int32)), (.int (1 : Int32))]))
    refine own_go (fun _ k => XS.iand X43.here hx rfl (hb hby at_141) rfl k) ?_
    show own_Fin p.tables e below _ (T43.setTop (mkF m 142 #[.val (.int i1), .val (.int i2), .val (.int i3), .val (.int i4), .val (.int i5), .val (.int ((i2 &&& (127 : Int32)).toUInt32.toUInt16.toUInt32.toInt32)), .val (.int ((i3 &&& (127 : Int32)).toUInt32.toUInt16.toUInt32.toInt32)), .val (.ref a1), .val (.ref a4), .val (.ref a8), .val (.int (1 : Int32)), .val (.int (1 : Int32)), .val (.int (1 : Int32))] [(.int ((1 : Int32) &&& (1 : Int32)))]))
    refine own_go (fun _ k => XS.iload X43.here hx rfl (hb hby at_142) rfl k) ?_
    show own_Fin p.tables e below _ (T43.setTop (mkF m 144 #[.val (.int i1), .val (.int i2), .val (.int i3), .val (.int i4), .val (.int i5), .val (.int ((i2 &&& (127 : Int32)).toUInt32.toUInt16.toUInt32.toInt32)), .val (.int ((i3 &&& (127 : Int32)).toUInt32.toUInt16.toUInt32.toInt32)), .val (.ref a1), .val (.ref a4), .val (.ref a8), .val (.int (1 : Int32)), .val (.int (1 : Int32)), .val (.int (1 : Int32))] [(.int (1 : Int32)), (.int ((1 : Int32) &&& (1 : Int32)))]))
    refine own_go (fun _ k => XS.iand X43.here hx rfl (hb hby at_144) rfl k) ?_
    show own_Fin p.tables e below _ (T43.setTop (mkF m 145 #[.val (.int i1), .val (.int i2), .val (.int i3), .val (.int i4), .val (.int i5), .val (.int ((i2 &&& (127 : Int32)).toUInt32.toUInt16.toUInt32.toInt32)), .val (.int ((i3 &&& (127 : Int32)).toUInt32.toUInt16.toUInt32.toInt32)), .val (.ref a1), .val (.ref a4), .val (.ref a8), .val (.int (1 : Int32)), .val (.int (1 : Int32)), .val (.int (1 : Int32))] [(.int (((1 : Int32) &&& (1 : Int32)) &&& (1 : Int32)))]))
    refine own_retN X43 hx hlk (t := .boolean) hret (by simp) (hb hby at_145) ?_ (by decide) (by decide)
    exact ⟨rfl, N43⟩
set_option maxRecDepth 65536 in
set_option maxHeartbeats 40000000 in
theorem comes_1 {Post : Tables → Env → Array Value → State → Outcome → State → Prop} (hpost : ∀ tb e args s v u, (limb_1_1.after args s (.returned v) u = true ∧ limb_1_2.after args s (.returned v) u = true ∧ True) → FrameEnd s (.returned v) u (Jvm.fieldLocs frame_1_writes args s ++ Jvm.arrayLocs frame_1_arrays args s ++ Jvm.staticLocs frame_1_statics s) 24 128 → Post tb e args s (.returned v) u) :
    ArmFor flags0 classFile x code maxLocals ret World_1 tables_1 room_1 Calls_1 rest_1 Pre_1 Post := by
  intro l hfl _ _ p e ha hc hk s m args below hf hA hF happ hP
  obtain ⟨hcalls, hrest, hpre⟩ := hP
  obtain ⟨-, -, -, hnamed, -, -, -, hat⟩ := (Spec.applies_iff hf).mp happ
  obtain ⟨hg, hn⟩ := and_e (Cond.before_iff.mp (show (Jvm.Cond.and given_1 narrow_1).before args s = true from hpre))
  obtain ⟨hcount, hr0⟩ := and_e hg
  obtain ⟨hk0, hr1⟩ := and_e hr0
  obtain ⟨hk1, hr2⟩ := and_e hr1
  obtain ⟨hk2, hr3⟩ := and_e hr2
  obtain ⟨hk3, hr4⟩ := and_e hr3
  obtain ⟨w0, w1, w2, w3, w4, rfl⟩ : ∃ w0 w1 w2 w3 w4 : Value, args = #[w0, w1, w2, w3, w4] := by
    have hs : args.size = 5 := by simpa [Cond.value, given_1] using hcount
    obtain ⟨L⟩ := args
    match L, hs with
    | [w0, w1, w2, w3, w4], _ => exact ⟨w0, w1, w2, w3, w4, rfl⟩
  have hw := fun d (hd : d ∈ tables_1) => atoms_spec (ws := Jvm.Cond.code x code maxLocals ret :: tables_1) hat d (List.mem_cons_of_mem _ hd)
  have hfit : Fit s := fun {y c} hc i hi => by
    obtain ⟨ha, rfl⟩ := Array.getElem?_eq_some_iff.mp hc
    have q := List.all_eq_true.mp ((Array.all_eq_true_iff_forall_mem.mp hF) _ (Array.getElem_mem ha)) i (List.mem_range.mpr hi)
    simpa [Array.getElem?_eq_getElem hi] using q
  obtain ⟨i0, ev0⟩ := is_v hk0
  obtain rfl : w0 = (.int i0) := Option.some.inj ev0
  obtain ⟨i1, ev1⟩ := is_v hk1
  obtain rfl : w1 = (.int i1) := Option.some.inj ev1
  obtain ⟨i2, ev2⟩ := is_v hk2
  obtain rfl : w2 = (.int i2) := Option.some.inj ev2
  obtain ⟨i3, ev3⟩ := is_v hk3
  obtain rfl : w3 = (.int i3) := Option.some.inj ev3
  obtain ⟨i4, ev4⟩ := is_v hr4
  obtain rfl : w4 = (.int i4) := Option.some.inj ev4
  obtain ⟨hsets, hown0⟩ := atoms_of _ (rest_1_c_eq ▸ (show rest_1_c.before _ s = true from hrest))
  obtain ⟨ic, evc⟩ := is_v (Cond.before_iff.mp (hsets _ (List.mem_of_getElem? (i := 1) rfl)))
  have SC : Sta s s.heap "java/lang/String" "COMPACT_STRINGS" "Z" (.int ic) := Sta.start evc (Or.inl (hsets _ (List.mem_of_getElem? (i := 0) rfl)))
  have hz : ¬ (ic = (0 : Int32)) := gotF (Cond.eq_ints evc (Term.int_eval (0))) (not_v (Cond.before_iff.mp (hsets _ (List.mem_of_getElem? (i := 2) rfl))))
  obtain ⟨fm, evf, rf⟩ := isR_v (Cond.before_iff.mp (hsets _ (List.mem_of_getElem? (i := 8) rfl)))
  have SF : Sta s s.heap "jdk/internal/util/Preconditions" "SIOOBE_FORMATTER" "Ljava/util/function/BiFunction;" fm := Sta.start evf (Or.inl (hsets _ (List.mem_of_getElem? (i := 7) rfl)))
  obtain ⟨n, o, h1, h2, h3, _, L, rfl, ⟨hv, N⟩, hq⟩ := rm0 l s _ hw tables_1 i0 i1 i2 i3 i4 s.heap s.heap.size (Nat.le_refl _) ic SC hz (Old.start s) fm SF rf p e ha hc hk s m _ below hf ((Spec.applies_iff_loose hf).mp happ).1 ⟨rfl, State.Warmed39.refl s, rfl⟩ trivial
  subst hv
  refine ⟨n, _, h1, h2, h3, hpost _ _ _ _ _ _ ⟨Cond.after_iff.mpr rfl, Cond.after_iff.mpr (eq_i res_at (Term.int_eval (1)) rfl), trivial⟩ ⟨hq.1, hq.2.1, (hq.2.2.sift fun y hy => Or.inr (N y hy)).mono (by decide) (by decide)⟩⟩
theorem main_1_1 : Claimed_1_1 := comes_1 fun _ _ _ _ _ _ h hF => ⟨h.1, hF⟩
theorem main_1_2 : Claimed_1_2 := comes_1 fun _ _ _ _ _ _ h hF => ⟨h.2.1, hF⟩
end Jvm.Pilot.@@N@@
namespace Jvm.Pilot.@@N@@
open Jvm Jvm.ClassFile Sem Op Lib Jvm.Free Jvm.Stand Jvm.Pilot.@@N@@.Jvm.D
/-! MADE BY PROGRAM (witnessworld.py) out of the Statement's table words and the real class files: 24 classes; the members and pool entries that the words name. The judged class is class 1, her method 1. -/
namespace start1
open Jvm.ClassFile
def u (s : String) : CpInfo := .utf8 (stringToUtf16 s)
/-- a pool by its gaps: so many unusable entries, then the entry; so many at the end -/
def gap : Nat → List CpInfo → List CpInfo
  | 0, r => r
  | n + 1, r => .unusable :: gap n r
def poolList (es : List (Nat × CpInfo)) (last : Nat) : List CpInfo := es.foldr (fun e r => gap e.1 (e.2 :: r)) (gap last [])
def pool (es : List (Nat × CpInfo)) (last : Nat) : Array CpInfo := ⟨poolList es last⟩
def fileOf (pool : Array CpInfo) (this : Nat) (attrs : Array Attribute := #[]) (ms : Array MethodInfo := #[]) (fl : Nat := 33) (sup : Nat := 0) (ifs : Array Nat := #[]) (fds : Array FieldInfo := #[]) : ClassFile where
  minorVersion := 0
  majorVersion := 65
  constantPool := pool
  accessFlags := fl
  thisClass := this
  superClass := sup
  interfaces := ifs
  fields := fds
  methods := ms
  attributes := attrs
def plain (name : String) (sup : Option ClassId) : Class where
  name := name
  kind := .ordinary
  loader := none
  accessFlags := 33
  super := sup
  interfaces := #[]
  cf := none
  fields := #[]
  methods := #[]
  instanceTypes := #[]
  staticTypes := #[]
  resolved := #[]
  callSites := []
  init := .initialized
  statics := none
  mirror := none

def pool0 : Array CpInfo := pool [(5, u "<init>"), (0, u "()V"), (1, .class_ 10), (1, u "java/lang/Object")] 113

def k0c0 : Code := { maxStack := 0, maxLocals := 1, code := object_method_1_code, exceptionTable := #[], attributes := #[] }
def k0m0 : Method := { name := "<init>", desc := "()V", sig := { parameters := [], returnType := none }, accessFlags := 1, code := some k0c0 }
/-- java/lang/Object -/
def k0 : Class := { plain "java/lang/Object" none with
  accessFlags := 33
  interfaces := #[]
  cf := some (fileOf pool0 8 #[] #[{ accessFlags := 1, nameIndex := 5, descriptorIndex := 6, attributes := #[] }] 33 0 #[] #[])
  fields := #[]
  methods := #[k0m0]
  instanceTypes := #[]
  staticTypes := #[]
  resolved := Array.replicate 124 none
  statics := none }

def pool1 : Array CpInfo := pool [(2, .class_ 4), (1, u "java/lang/Object"), (0, u "<init>"), (0, u "()V"), (0, .class_ 8), (0, u "java/lang/String"), (0, .methodref 7 10), (0, .nameAndType 5 11), (0, u "([C)V"), (0, .class_ 13), (0, u "com/example/envelope/envelope/JsonOutput"), (0, .methodref 12 15), (0, .nameAndType 5 16), (0, u "(I)V"), (0, .methodref 12 18), (0, .nameAndType 19 20), (0, u "append"), (0, u "(C)V"), (0, .methodref 12 22), (0, .nameAndType 23 24), (0, u "last"), (0, u "()B"), (0, .methodref 12 26), (0, .nameAndType 27 28), (0, u "appendAscii"), (0, u "(Ljava/lang/String;)V"), (0, .class_ 30), (0, u "com/example/envelope/envelope/JsonOutputLastPinLaw"), (2, u "law"), (0, u "(IIIII)Z")] 5

def k1m0 : Method := { name := "<init>", desc := "()V", sig := { parameters := [], returnType := none }, accessFlags := 1, code := none }
def k1c1 : Code := { maxStack := 5, maxLocals := 13, code := code, exceptionTable := #[], attributes := #[] }
def k1m1 : Method := { name := "law", desc := "(IIIII)Z", sig := { parameters := [.int, .int, .int, .int, .int], returnType := some .boolean }, accessFlags := 9, code := some k1c1 }
/-- com/example/envelope/envelope/JsonOutputLastPinLaw -/
def k1 : Class := { plain "com/example/envelope/envelope/JsonOutputLastPinLaw" (some 0) with
  accessFlags := 49
  interfaces := #[]
  cf := some (fileOf pool1 29 #[] #[{ accessFlags := 1, nameIndex := 5, descriptorIndex := 6, attributes := #[] }, { accessFlags := 9, nameIndex := 33, descriptorIndex := 34, attributes := #[] }] 49 2 #[] #[])
  fields := #[]
  methods := #[k1m0, k1m1]
  instanceTypes := #[]
  staticTypes := #[]
  resolved := Array.replicate 40 none
  statics := none }

def pool2 : Array CpInfo := pool [(1, .class_ 2), (0, u "java/io/Serializable"), (0, .class_ 4), (0, u "java/lang/Object")] 2

/-- java/io/Serializable -/
def k2 : Class := { plain "java/io/Serializable" (some 0) with
  accessFlags := 1537
  interfaces := #[]
  cf := some (fileOf pool2 1 #[] #[] 1537 3 #[] #[])
  fields := #[]
  methods := #[]
  instanceTypes := #[]
  staticTypes := #[]
  resolved := Array.replicate 7 none
  statics := none }

def pool3 : Array CpInfo := pool [(1, .class_ 2), (0, u "java/lang/Comparable"), (0, .class_ 4), (0, u "java/lang/Object")] 7

/-- java/lang/Comparable -/
def k3 : Class := { plain "java/lang/Comparable" (some 0) with
  accessFlags := 1537
  interfaces := #[]
  cf := some (fileOf pool3 1 #[] #[] 1537 3 #[] #[])
  fields := #[]
  methods := #[]
  instanceTypes := #[]
  staticTypes := #[]
  resolved := Array.replicate 12 none
  statics := none }

def pool4 : Array CpInfo := pool [(2, .class_ 4), (1, u "java/lang/CharSequence"), (42, .class_ 48), (0, u "java/lang/CharSequence$1CodePointIterator"), (10, .class_ 60), (0, u "java/lang/CharSequence$1CharIterator"), (5, .class_ 67), (0, u "java/lang/Object")] 63

/-- java/lang/CharSequence -/
def k4 : Class := { plain "java/lang/CharSequence" (some 0) with
  accessFlags := 1537
  interfaces := #[]
  cf := some (fileOf pool4 2 #[.nestMembers #[47, 59]] #[] 1537 66 #[] #[])
  fields := #[]
  methods := #[]
  instanceTypes := #[]
  staticTypes := #[]
  resolved := Array.replicate 131 none
  statics := none }

def pool5 : Array CpInfo := pool [(1, .class_ 2), (0, u "java/lang/constant/Constable"), (0, .class_ 4), (0, u "java/lang/Object")] 6

/-- java/lang/constant/Constable -/
def k5 : Class := { plain "java/lang/constant/Constable" (some 0) with
  accessFlags := 1537
  interfaces := #[]
  cf := some (fileOf pool5 1 #[] #[] 1537 3 #[] #[])
  fields := #[]
  methods := #[]
  instanceTypes := #[]
  staticTypes := #[]
  resolved := Array.replicate 11 none
  statics := none }

def pool6 : Array CpInfo := pool [(1, .class_ 2), (0, u "java/lang/constant/ConstantDesc"), (0, .class_ 4), (0, u "java/lang/Object")] 32

/-- java/lang/constant/ConstantDesc -/
def k6 : Class := { plain "java/lang/constant/ConstantDesc" (some 0) with
  accessFlags := 1537
  interfaces := #[]
  cf := some (fileOf pool6 1 #[] #[] 1537 3 #[] #[])
  fields := #[]
  methods := #[]
  instanceTypes := #[]
  staticTypes := #[]
  resolved := Array.replicate 37 none
  statics := none }

def pool7 : Array CpInfo := pool [(1, .methodref 2 3), (0, .class_ 4), (0, .nameAndType 5 6), (0, u "java/lang/Object"), (0, u "<init>"), (0, u "()V"), (2, .fieldref 10 11), (0, .class_ 12), (0, .nameAndType 13 14), (0, u "java/lang/String"), (0, u "value"), (0, u "[B"), (0, .fieldref 10 16), (0, .nameAndType 17 18), (0, u "coder"), (0, u "B"), (2, u "hash"), (0, u "I"), (2, u "hashIsZero"), (0, u "Z"), (0, .methodref 10 28), (0, .nameAndType 5 29), (0, u "([CIILjava/lang/Void;)V"), (4, .methodref 10 35), (0, .nameAndType 36 37), (0, u "checkBoundsOffCount"), (0, u "(III)I"), (0, .fieldref 10 39), (0, .nameAndType 40 26), (0, u "COMPACT_STRINGS"), (1, .class_ 44), (1, u "java/lang/StringUTF16"), (0, u "compress"), (1, .methodref 42 48), (0, .nameAndType 49 50), (0, u "coderFromArrayLen"), (0, u "([BI)B"), (27, .methodref 79 80), (0, .class_ 81), (0, .nameAndType 82 83), (0, u "java/util/Objects"), (0, u "requireNonNull"), (0, u "(Ljava/lang/Object;)Ljava/lang/Object;"), (23, .class_ 109), (1, u "java/lang/StringLatin1"), (32, u "()Z"), (34, .methodref 42 178), (0, .nameAndType 45 179), (0, u "([CII)[B"), (154, u "()I"), (0, .methodref 10 336), (0, .nameAndType 17 337), (0, u "()B"), (154, .methodref 10 493), (0, .nameAndType 494 142), (0, u "isLatin1"), (10, .methodref 10 506), (0, .nameAndType 507 334), (0, u "length"), (5, u "checkFromToIndex"), (7, .methodref 10 522), (0, .nameAndType 523 524), (0, u "checkBoundsBeginEnd"), (0, u "(III)V"), (5, .methodref 107 531), (0, .nameAndType 532 533), (0, u "getBytes"), (0, u "([BII[BI)V"), (41, .class_ 576), (0, u "java/lang/CharSequence"), (22, u "CASE_INSENSITIVE_ORDER"), (0, u "Ljava/util/Comparator;"), (409, u "([C)V"), (42, .fieldref 1054 1055), (0, .class_ 1056), (0, .nameAndType 1057 1058), (0, u "jdk/internal/util/Preconditions"), (0, u "SIOOBE_FORMATTER"), (0, u "Ljava/util/function/BiFunction;"), (3, .methodref 1054 1063), (0, .nameAndType 513 1064), (0, u "(IIILjava/util/function/BiFunction;)I"), (0, .methodref 1054 1066), (0, .nameAndType 1067 1064), (0, u "checkFromIndexSize"), (33, u "serialPersistentFields"), (0, u "[Ljava/io/ObjectStreamField;"), (0, .class_ 1104), (0, u "java/lang/String$CaseInsensitiveComparator"), (1, .class_ 1107), (0, u "java/io/Serializable"), (0, .class_ 1109), (0, u "java/lang/Comparable"), (0, .class_ 1111), (0, u "java/lang/constant/Constable"), (0, .class_ 1113), (0, u "java/lang/constant/ConstantDesc"), (2, u "serialVersionUID"), (0, u "J"), (3, u "REPL"), (0, u "C"), (2, u "LATIN1"), (1, u "UTF16"), (116, u "(II[BI)V")] 206

def k7m0 : Method := { name := "<init>", desc := "()V", sig := { parameters := [], returnType := none }, accessFlags := 1, code := none }
def k7c1 : Code := { maxStack := 5, maxLocals := 2, code := jdk_42_method_3_code, exceptionTable := #[], attributes := #[] }
def k7m1 : Method := { name := "<init>", desc := "([C)V", sig := { parameters := [(.array .char)], returnType := none }, accessFlags := 1, code := some k7c1 }
def k7c2 : Code := { maxStack := 2, maxLocals := 1, code := jdk_42_method_54_code, exceptionTable := #[], attributes := #[] }
def k7m2 : Method := { name := "length", desc := "()I", sig := { parameters := [], returnType := some .int }, accessFlags := 1, code := some k7c2 }
def k7c3 : Code := { maxStack := 5, maxLocals := 5, code := jdk_42_method_62_code, exceptionTable := #[], attributes := #[] }
def k7m3 : Method := { name := "getBytes", desc := "(II[BI)V", sig := { parameters := [.int, .int, (.array .byte), .int], returnType := none }, accessFlags := 1, code := some k7c3 }
def k7c4 : Code := { maxStack := 4, maxLocals := 6, code := jdk_42_method_149_code, exceptionTable := #[], attributes := #[] }
def k7m4 : Method := { name := "<init>", desc := "([CIILjava/lang/Void;)V", sig := { parameters := [(.array .char), .int, .int, (.object "java/lang/Void")], returnType := none }, accessFlags := 2, code := some k7c4 }
def k7c5 : Code := { maxStack := 1, maxLocals := 1, code := jdk_42_method_152_code, exceptionTable := #[], attributes := #[] }
def k7m5 : Method := { name := "coder", desc := "()B", sig := { parameters := [], returnType := some .byte }, accessFlags := 0, code := some k7c5 }
def k7c6 : Code := { maxStack := 1, maxLocals := 1, code := jdk_42_method_154_code, exceptionTable := #[], attributes := #[] }
def k7m6 : Method := { name := "isLatin1", desc := "()Z", sig := { parameters := [], returnType := some .boolean }, accessFlags := 0, code := some k7c6 }
def k7c7 : Code := { maxStack := 4, maxLocals := 3, code := jdk_42_method_157_code, exceptionTable := #[], attributes := #[] }
def k7m7 : Method := { name := "checkBoundsOffCount", desc := "(III)I", sig := { parameters := [.int, .int, .int], returnType := some .int }, accessFlags := 8, code := some k7c7 }
def k7c8 : Code := { maxStack := 4, maxLocals := 3, code := jdk_42_method_158_code, exceptionTable := #[], attributes := #[] }
def k7m8 : Method := { name := "checkBoundsBeginEnd", desc := "(III)V", sig := { parameters := [.int, .int, .int], returnType := none }, accessFlags := 8, code := some k7c8 }
/-- java/lang/String -/
def k7 : Class := { plain "java/lang/String" (some 0) with
  accessFlags := 49
  interfaces := #[2, 3, 4, 5, 6]
  cf := some (fileOf pool7 10 #[.nestMembers #[1103]] #[{ accessFlags := 1, nameIndex := 5, descriptorIndex := 6, attributes := #[] }, { accessFlags := 1, nameIndex := 5, descriptorIndex := 1010, attributes := #[] }, { accessFlags := 1, nameIndex := 507, descriptorIndex := 334, attributes := #[] }, { accessFlags := 1, nameIndex := 532, descriptorIndex := 1244, attributes := #[] }, { accessFlags := 2, nameIndex := 5, descriptorIndex := 29, attributes := #[] }, { accessFlags := 0, nameIndex := 17, descriptorIndex := 337, attributes := #[] }, { accessFlags := 0, nameIndex := 494, descriptorIndex := 142, attributes := #[] }, { accessFlags := 8, nameIndex := 36, descriptorIndex := 37, attributes := #[] }, { accessFlags := 8, nameIndex := 523, descriptorIndex := 524, attributes := #[] }] 49 2 #[1106, 1108, 575, 1110, 1112] #[{ accessFlags := 18, nameIndex := 13, descriptorIndex := 14, attributes := #[] }, { accessFlags := 18, nameIndex := 17, descriptorIndex := 18, attributes := #[] }, { accessFlags := 2, nameIndex := 21, descriptorIndex := 22, attributes := #[] }, { accessFlags := 2, nameIndex := 25, descriptorIndex := 26, attributes := #[] }, { accessFlags := 26, nameIndex := 1116, descriptorIndex := 1117, attributes := #[] }, { accessFlags := 24, nameIndex := 40, descriptorIndex := 26, attributes := #[] }, { accessFlags := 26, nameIndex := 1101, descriptorIndex := 1102, attributes := #[] }, { accessFlags := 26, nameIndex := 1121, descriptorIndex := 1122, attributes := #[] }, { accessFlags := 25, nameIndex := 599, descriptorIndex := 600, attributes := #[] }, { accessFlags := 24, nameIndex := 1125, descriptorIndex := 18, attributes := #[] }, { accessFlags := 24, nameIndex := 1127, descriptorIndex := 18, attributes := #[] }])
  fields := #[{ name := "value", type := (.array .byte), accessFlags := 18, slot := 0, constantValue := 0 }, { name := "coder", type := .byte, accessFlags := 18, slot := 1, constantValue := 0 }, { name := "hash", type := .int, accessFlags := 2, slot := 2, constantValue := 0 }, { name := "hashIsZero", type := .boolean, accessFlags := 2, slot := 3, constantValue := 0 }, { name := "serialVersionUID", type := .long, accessFlags := 26, slot := 0, constantValue := 0 }, { name := "COMPACT_STRINGS", type := .boolean, accessFlags := 24, slot := 1, constantValue := 0 }, { name := "serialPersistentFields", type := (.array (.object "java/io/ObjectStreamField")), accessFlags := 26, slot := 2, constantValue := 0 }, { name := "REPL", type := .char, accessFlags := 26, slot := 3, constantValue := 0 }, { name := "CASE_INSENSITIVE_ORDER", type := (.object "java/util/Comparator"), accessFlags := 25, slot := 4, constantValue := 0 }, { name := "LATIN1", type := .byte, accessFlags := 24, slot := 5, constantValue := 0 }, { name := "UTF16", type := .byte, accessFlags := 24, slot := 6, constantValue := 0 }]
  methods := #[k7m0, k7m1, k7m2, k7m3, k7m4, k7m5, k7m6, k7m7, k7m8]
  instanceTypes := #[(.array .byte), .byte, .int, .boolean]
  staticTypes := #[.long, .boolean, (.array (.object "java/io/ObjectStreamField")), .char, (.object "java/util/Comparator"), .byte, .byte]
  resolved := Array.replicate 1451 none
  statics := some 0 }

def pool8 : Array CpInfo := pool [(6, .class_ 8), (1, u "java/lang/Object"), (0, u "<init>"), (0, u "()V"), (1, .class_ 14), (1, u "java/lang/StringUTF16"), (31, u "$assertionsDisabled"), (0, u "Z"), (13, u "HI_BYTE_SHIFT"), (0, u "I"), (2, u "LO_BYTE_SHIFT"), (49, .methodref 12 116), (0, .nameAndType 117 118), (0, u "compress"), (0, u "([CI[BII)I"), (3, u "([CII)[B"), (138, u "coderFromArrayLen"), (0, u "([BI)B"), (106, .class_ 371), (1, u "java/lang/StringUTF16$LinesSpliterator"), (58, u "MAX_LENGTH"), (196, .class_ 628), (0, u "java/lang/StringUTF16$CodePointsSpliterator"), (0, .class_ 630), (0, u "java/lang/StringUTF16$CharsSpliterator")] 4

def k8m0 : Method := { name := "<init>", desc := "()V", sig := { parameters := [], returnType := none }, accessFlags := 0, code := none }
def k8c1 : Code := { maxStack := 2, maxLocals := 2, code := jdk_52_method_15_code, exceptionTable := #[], attributes := #[] }
def k8m1 : Method := { name := "coderFromArrayLen", desc := "([BI)B", sig := { parameters := [(.array .byte), .int], returnType := some .byte }, accessFlags := 8, code := some k8c1 }
def k8c2 : Code := { maxStack := 5, maxLocals := 6, code := jdk_52_method_16_code, exceptionTable := #[], attributes := #[] }
def k8m2 : Method := { name := "compress", desc := "([CII)[B", sig := { parameters := [(.array .char), .int, .int], returnType := some (.array .byte) }, accessFlags := 9, code := some k8c2 }
def k8c3 : Code := { maxStack := 3, maxLocals := 7, code := jdk_52_method_21_code, exceptionTable := #[], attributes := #[] }
def k8m3 : Method := { name := "compress", desc := "([CI[BII)I", sig := { parameters := [(.array .char), .int, (.array .byte), .int, .int], returnType := some .int }, accessFlags := 9, code := some k8c3 }
/-- java/lang/StringUTF16 -/
def k8 : Class := { plain "java/lang/StringUTF16" (some 0) with
  accessFlags := 48
  interfaces := #[]
  cf := some (fileOf pool8 12 #[.nestMembers #[627, 629, 369]] #[{ accessFlags := 0, nameIndex := 9, descriptorIndex := 10, attributes := #[] }, { accessFlags := 8, nameIndex := 261, descriptorIndex := 262, attributes := #[] }, { accessFlags := 9, nameIndex := 117, descriptorIndex := 122, attributes := #[] }, { accessFlags := 9, nameIndex := 117, descriptorIndex := 118, attributes := #[] }] 48 6 #[] #[{ accessFlags := 26, nameIndex := 61, descriptorIndex := 62, attributes := #[] }, { accessFlags := 26, nameIndex := 65, descriptorIndex := 62, attributes := #[] }, { accessFlags := 24, nameIndex := 430, descriptorIndex := 62, attributes := #[] }, { accessFlags := 4120, nameIndex := 46, descriptorIndex := 47, attributes := #[] }])
  fields := #[{ name := "HI_BYTE_SHIFT", type := .int, accessFlags := 26, slot := 0, constantValue := 0 }, { name := "LO_BYTE_SHIFT", type := .int, accessFlags := 26, slot := 1, constantValue := 0 }, { name := "MAX_LENGTH", type := .int, accessFlags := 24, slot := 2, constantValue := 0 }, { name := "$assertionsDisabled", type := .boolean, accessFlags := 4120, slot := 3, constantValue := 0 }]
  methods := #[k8m0, k8m1, k8m2, k8m3]
  instanceTypes := #[]
  staticTypes := #[.int, .int, .int, .boolean]
  resolved := Array.replicate 635 none
  statics := none }

def pool9 : Array CpInfo := pool [(1, .methodref 2 3), (0, .class_ 4), (0, .nameAndType 5 6), (0, u "java/lang/Object"), (0, u "<init>"), (0, u "()V"), (0, .fieldref 8 9), (0, .class_ 10), (0, .nameAndType 11 12), (0, u "com/example/envelope/envelope/JsonOutput"), (0, u "bytes"), (0, u "[B"), (21, .class_ 36), (1, u "java/lang/Math"), (0, u "min"), (3, u "EIGHT_BYTES"), (0, u "Ljava/lang/invoke/VarHandle;"), (26, u "IS_SHORT_LETTER"), (0, u "[Z"), (3, .class_ 76), (1, u "java/lang/String"), (9, .methodref 74 87), (0, .nameAndType 88 89), (0, u "length"), (0, u "()I"), (4, .methodref 8 95), (0, .nameAndType 96 97), (0, u "ensureRoom"), (0, u "(J)V"), (0, .fieldref 8 99), (0, .nameAndType 88 100), (0, u "I"), (0, .methodref 8 102), (0, .nameAndType 103 104), (0, u "copyAscii"), (0, u "(Ljava/lang/String;II)V"), (8, u "append"), (0, u "(C)V"), (9, .long 2), (15, .methodref 141 142), (0, .class_ 143), (0, .nameAndType 144 145), (0, u "java/util/Arrays"), (0, u "copyOf"), (0, u "([BI)[B"), (19, u "(I)V"), (0, .methodref 74 167), (0, .nameAndType 168 169), (0, u "getBytes"), (0, u "(II[BI)V"), (8, u "HEX"), (0, u "Ljava/util/HexFormat;"), (8, u "appendAscii"), (0, u "(Ljava/lang/String;)V"), (2, .long 2147483639), (1, .class_ 195), (0, u "com/example/envelope/envelope/JsonOutput$TooLongError"), (2, .long 8), (1, .methodref 34 201), (0, .nameAndType 202 203), (0, u "max"), (0, u "(JJ)J"), (0, .methodref 34 205), (0, .nameAndType 37 203), (22, u "STRETCH"), (2, u "HEX_DIGITS"), (0, u "Ljava/lang/String;"), (0, u "SHORT_ESCAPED"), (0, u "SHORT_LETTERS"), (0, u "ONES"), (0, u "J"), (0, u "HIGH_BITS"), (11, u "last"), (0, u "()B")] 12

def k9c0 : Code := { maxStack := 2, maxLocals := 2, code := prog_16_method_1_code, exceptionTable := #[], attributes := #[] }
def k9m0 : Method := { name := "<init>", desc := "(I)V", sig := { parameters := [.int], returnType := none }, accessFlags := 0, code := some k9c0 }
def k9c1 : Code := { maxStack := 5, maxLocals := 2, code := prog_16_method_9_code, exceptionTable := #[], attributes := #[] }
def k9m1 : Method := { name := "append", desc := "(C)V", sig := { parameters := [.char], returnType := none }, accessFlags := 0, code := some k9c1 }
def k9c2 : Code := { maxStack := 4, maxLocals := 2, code := prog_16_method_10_code, exceptionTable := #[], attributes := #[] }
def k9m2 : Method := { name := "appendAscii", desc := "(Ljava/lang/String;)V", sig := { parameters := [(.object "java/lang/String")], returnType := none }, accessFlags := 0, code := some k9c2 }
def k9c3 : Code := { maxStack := 3, maxLocals := 1, code := prog_16_method_15_code, exceptionTable := #[], attributes := #[] }
def k9m3 : Method := { name := "last", desc := "()B", sig := { parameters := [], returnType := some .byte }, accessFlags := 0, code := some k9c3 }
def k9c4 : Code := { maxStack := 5, maxLocals := 4, code := prog_16_method_19_code, exceptionTable := #[], attributes := #[] }
def k9m4 : Method := { name := "copyAscii", desc := "(Ljava/lang/String;II)V", sig := { parameters := [(.object "java/lang/String"), .int, .int], returnType := none }, accessFlags := 2, code := some k9c4 }
def k9c5 : Code := { maxStack := 8, maxLocals := 7, code := prog_16_method_23_code, exceptionTable := #[], attributes := #[] }
def k9m5 : Method := { name := "ensureRoom", desc := "(J)V", sig := { parameters := [.long], returnType := none }, accessFlags := 2, code := some k9c5 }
/-- com/example/envelope/envelope/JsonOutput -/
def k9 : Class := { plain "com/example/envelope/envelope/JsonOutput" (some 0) with
  accessFlags := 48
  interfaces := #[]
  cf := some (fileOf pool9 8 #[.nestMembers #[194]] #[{ accessFlags := 0, nameIndex := 5, descriptorIndex := 165, attributes := #[] }, { accessFlags := 0, nameIndex := 113, descriptorIndex := 114, attributes := #[] }, { accessFlags := 0, nameIndex := 188, descriptorIndex := 189, attributes := #[] }, { accessFlags := 0, nameIndex := 249, descriptorIndex := 250, attributes := #[] }, { accessFlags := 2, nameIndex := 103, descriptorIndex := 104, attributes := #[] }, { accessFlags := 2, nameIndex := 96, descriptorIndex := 97, attributes := #[] }] 48 2 #[] #[{ accessFlags := 26, nameIndex := 228, descriptorIndex := 100, attributes := #[] }, { accessFlags := 26, nameIndex := 178, descriptorIndex := 179, attributes := #[] }, { accessFlags := 26, nameIndex := 231, descriptorIndex := 232, attributes := #[] }, { accessFlags := 26, nameIndex := 233, descriptorIndex := 232, attributes := #[] }, { accessFlags := 26, nameIndex := 234, descriptorIndex := 232, attributes := #[] }, { accessFlags := 26, nameIndex := 69, descriptorIndex := 70, attributes := #[] }, { accessFlags := 26, nameIndex := 41, descriptorIndex := 42, attributes := #[] }, { accessFlags := 24, nameIndex := 235, descriptorIndex := 236, attributes := #[] }, { accessFlags := 24, nameIndex := 237, descriptorIndex := 236, attributes := #[] }, { accessFlags := 2, nameIndex := 11, descriptorIndex := 12, attributes := #[] }, { accessFlags := 2, nameIndex := 88, descriptorIndex := 100, attributes := #[] }])
  fields := #[{ name := "STRETCH", type := .int, accessFlags := 26, slot := 0, constantValue := 0 }, { name := "HEX", type := (.object "java/util/HexFormat"), accessFlags := 26, slot := 1, constantValue := 0 }, { name := "HEX_DIGITS", type := (.object "java/lang/String"), accessFlags := 26, slot := 2, constantValue := 0 }, { name := "SHORT_ESCAPED", type := (.object "java/lang/String"), accessFlags := 26, slot := 3, constantValue := 0 }, { name := "SHORT_LETTERS", type := (.object "java/lang/String"), accessFlags := 26, slot := 4, constantValue := 0 }, { name := "IS_SHORT_LETTER", type := (.array .boolean), accessFlags := 26, slot := 5, constantValue := 0 }, { name := "EIGHT_BYTES", type := (.object "java/lang/invoke/VarHandle"), accessFlags := 26, slot := 6, constantValue := 0 }, { name := "ONES", type := .long, accessFlags := 24, slot := 7, constantValue := 0 }, { name := "HIGH_BITS", type := .long, accessFlags := 24, slot := 8, constantValue := 0 }, { name := "bytes", type := (.array .byte), accessFlags := 2, slot := 0, constantValue := 0 }, { name := "length", type := .int, accessFlags := 2, slot := 1, constantValue := 0 }]
  methods := #[k9m0, k9m1, k9m2, k9m3, k9m4, k9m5]
  instanceTypes := #[(.array .byte), .int]
  staticTypes := #[.int, (.object "java/util/HexFormat"), (.object "java/lang/String"), (.object "java/lang/String"), (.object "java/lang/String"), (.array .boolean), (.object "java/lang/invoke/VarHandle"), .long, .long]
  resolved := Array.replicate 263 none
  statics := none }

def pool10 : Array CpInfo := pool [(1, .class_ 2), (0, u "java/lang/Math"), (1, .class_ 6), (1, u "java/lang/Object"), (0, u "<init>"), (0, u "()V"), (89, .class_ 100), (1, u "java/lang/Math$RandomNumberGeneratorHolder"), (20, u "(JJ)J"), (50, u "negativeZeroFloatBits"), (0, u "J"), (2, u "negativeZeroDoubleBits"), (21, u "max"), (2, u "min"), (43, u "$assertionsDisabled"), (0, u "Z"), (88, u "(II)I"), (2, u "twoToTheDoubleScaleDown"), (0, u "D"), (4, u "twoToTheDoubleScaleUp"), (9, u "E"), (3, u "PI"), (2, u "TAU"), (2, u "DEGREES_TO_RADIANS"), (0, u "RADIANS_TO_DEGREES")] 94

def k10m0 : Method := { name := "<init>", desc := "()V", sig := { parameters := [], returnType := none }, accessFlags := 2, code := none }
def k10c1 : Code := { maxStack := 4, maxLocals := 4, code := jdk_29_method_66_code, exceptionTable := #[], attributes := #[] }
def k10m1 : Method := { name := "max", desc := "(JJ)J", sig := { parameters := [.long, .long], returnType := some .long }, accessFlags := 9, code := some k10c1 }
def k10c2 : Code := { maxStack := 2, maxLocals := 2, code := jdk_29_method_69_code, exceptionTable := #[], attributes := #[] }
def k10m2 : Method := { name := "min", desc := "(II)I", sig := { parameters := [.int, .int], returnType := some .int }, accessFlags := 9, code := some k10c2 }
def k10c3 : Code := { maxStack := 4, maxLocals := 4, code := jdk_29_method_70_code, exceptionTable := #[], attributes := #[] }
def k10m3 : Method := { name := "min", desc := "(JJ)J", sig := { parameters := [.long, .long], returnType := some .long }, accessFlags := 9, code := some k10c3 }
/-- java/lang/Math -/
def k10 : Class := { plain "java/lang/Math" (some 0) with
  accessFlags := 49
  interfaces := #[]
  cf := some (fileOf pool10 1 #[.nestMembers #[98]] #[{ accessFlags := 2, nameIndex := 7, descriptorIndex := 8, attributes := #[] }, { accessFlags := 9, nameIndex := 198, descriptorIndex := 121, attributes := #[] }, { accessFlags := 9, nameIndex := 201, descriptorIndex := 335, attributes := #[] }, { accessFlags := 9, nameIndex := 201, descriptorIndex := 121, attributes := #[] }] 49 4 #[] #[{ accessFlags := 25, nameIndex := 354, descriptorIndex := 339, attributes := #[] }, { accessFlags := 25, nameIndex := 358, descriptorIndex := 339, attributes := #[] }, { accessFlags := 25, nameIndex := 361, descriptorIndex := 339, attributes := #[] }, { accessFlags := 26, nameIndex := 364, descriptorIndex := 339, attributes := #[] }, { accessFlags := 26, nameIndex := 365, descriptorIndex := 339, attributes := #[] }, { accessFlags := 26, nameIndex := 172, descriptorIndex := 173, attributes := #[] }, { accessFlags := 26, nameIndex := 176, descriptorIndex := 173, attributes := #[] }, { accessFlags := 8, nameIndex := 344, descriptorIndex := 339, attributes := #[] }, { accessFlags := 8, nameIndex := 338, descriptorIndex := 339, attributes := #[] }, { accessFlags := 4120, nameIndex := 245, descriptorIndex := 246, attributes := #[] }])
  fields := #[{ name := "E", type := .double, accessFlags := 25, slot := 0, constantValue := 0 }, { name := "PI", type := .double, accessFlags := 25, slot := 1, constantValue := 0 }, { name := "TAU", type := .double, accessFlags := 25, slot := 2, constantValue := 0 }, { name := "DEGREES_TO_RADIANS", type := .double, accessFlags := 26, slot := 3, constantValue := 0 }, { name := "RADIANS_TO_DEGREES", type := .double, accessFlags := 26, slot := 4, constantValue := 0 }, { name := "negativeZeroFloatBits", type := .long, accessFlags := 26, slot := 5, constantValue := 0 }, { name := "negativeZeroDoubleBits", type := .long, accessFlags := 26, slot := 6, constantValue := 0 }, { name := "twoToTheDoubleScaleUp", type := .double, accessFlags := 8, slot := 7, constantValue := 0 }, { name := "twoToTheDoubleScaleDown", type := .double, accessFlags := 8, slot := 8, constantValue := 0 }, { name := "$assertionsDisabled", type := .boolean, accessFlags := 4120, slot := 9, constantValue := 0 }]
  methods := #[k10m0, k10m1, k10m2, k10m3]
  instanceTypes := #[]
  staticTypes := #[.double, .double, .double, .double, .double, .long, .long, .double, .double, .boolean]
  resolved := Array.replicate 460 none
  statics := none }

def pool11 : Array CpInfo := pool [(2, .class_ 4), (1, u "java/lang/Object"), (0, u "<init>"), (0, u "()V"), (7, .class_ 16), (1, u "java/util/Arrays"), (57, .class_ 76), (1, u "java/util/Arrays$NaturalOrder"), (36, .class_ 115), (1, u "java/util/Arrays$LegacyMergeSort"), (1, u "Z"), (32, .methodref 151 152), (0, .class_ 153), (0, .nameAndType 154 155), (0, u "java/lang/System"), (0, u "arraycopy"), (0, u "(Ljava/lang/Object;ILjava/lang/Object;II)V"), (146, u "copyOf"), (1, .methodref 305 306), (0, .class_ 307), (0, .nameAndType 308 309), (0, u "java/lang/Math"), (0, u "min"), (0, u "(II)I"), (65, .class_ 376), (0, u "java/util/Arrays$ArrayList"), (68, u "$assertionsDisabled"), (269, u "MIN_ARRAY_SORT_GRAN"), (0, u "I"), (2, u "INSERTIONSORT_THRESHOLD"), (149, u "([BI)[B"), (105, .class_ 976), (0, u "java/util/Arrays$ArrayItr")] 52

def k11m0 : Method := { name := "<init>", desc := "()V", sig := { parameters := [], returnType := none }, accessFlags := 2, code := none }
def k11c1 : Code := { maxStack := 6, maxLocals := 3, code := jdk_65_method_121_code, exceptionTable := #[], attributes := #[] }
def k11m1 : Method := { name := "copyOf", desc := "([BI)[B", sig := { parameters := [(.array .byte), .int], returnType := some (.array .byte) }, accessFlags := 9, code := some k11c1 }
/-- java/util/Arrays -/
def k11 : Class := { plain "java/util/Arrays" (some 0) with
  accessFlags := 49
  interfaces := #[]
  cf := some (fileOf pool11 14 #[.nestMembers #[975, 375, 113, 74]] #[{ accessFlags := 2, nameIndex := 5, descriptorIndex := 6, attributes := #[] }, { accessFlags := 9, nameIndex := 302, descriptorIndex := 869, attributes := #[] }] 49 2 #[] #[{ accessFlags := 26, nameIndex := 715, descriptorIndex := 716, attributes := #[] }, { accessFlags := 26, nameIndex := 719, descriptorIndex := 716, attributes := #[] }, { accessFlags := 4120, nameIndex := 445, descriptorIndex := 117, attributes := #[] }])
  fields := #[{ name := "MIN_ARRAY_SORT_GRAN", type := .int, accessFlags := 26, slot := 0, constantValue := 0 }, { name := "INSERTIONSORT_THRESHOLD", type := .int, accessFlags := 26, slot := 1, constantValue := 0 }, { name := "$assertionsDisabled", type := .boolean, accessFlags := 4120, slot := 2, constantValue := 0 }]
  methods := #[k11m0, k11m1]
  instanceTypes := #[]
  staticTypes := #[.int, .int, .boolean]
  resolved := Array.replicate 1029 none
  statics := none }

def pool12 : Array CpInfo := pool [(2, .class_ 4), (1, u "java/lang/Object"), (0, u "<init>"), (0, u "()V"), (1, .class_ 10), (1, u "java/lang/System"), (0, u "allowSecurityManager"), (0, u "I"), (16, u "cons"), (0, u "Ljava/io/Console;"), (77, .class_ 110), (1, u "java/lang/System$CallersHolder"), (43, u "initialErrStream"), (0, u "Ljava/io/PrintStream;"), (19, u "security"), (0, u "Ljava/lang/SecurityManager;"), (31, .class_ 209), (0, u "java/lang/System$1"), (7, u "props"), (0, u "Ljava/util/Properties;"), (2, u "lineSeparator"), (0, u "Ljava/lang/String;"), (96, .class_ 321), (1, u "java/lang/System$LoggerFinder"), (5, .class_ 328), (0, u "java/lang/System$Logger"), (67, u "err"), (2, u "out"), (91, u "notSupportedJnuEncoding"), (15, u "in"), (17, u "initialIn"), (0, u "Ljava/io/InputStream;"), (35, u "bootLayer"), (0, u "Ljava/lang/ModuleLayer;"), (99, .class_ 664), (0, u "java/lang/System$2"), (9, u "NEVER"), (2, u "MAYBE"), (49, u "arraycopy"), (0, u "(Ljava/lang/Object;ILjava/lang/Object;II)V"), (72, .class_ 802), (0, u "java/lang/System$Logger$Level")] 31

def k12m0 : Method := { name := "<init>", desc := "()V", sig := { parameters := [], returnType := none }, accessFlags := 2, code := none }
def k12m1 : Method := { name := "arraycopy", desc := "(Ljava/lang/Object;ILjava/lang/Object;II)V", sig := { parameters := [(.object "java/lang/Object"), .int, (.object "java/lang/Object"), .int, .int], returnType := none }, accessFlags := 265, code := none }
/-- java/lang/System -/
def k12 : Class := { plain "java/lang/System" (some 0) with
  accessFlags := 49
  interfaces := #[]
  cf := some (fileOf pool12 8 #[.nestMembers #[319, 327, 801, 108, 663, 208]] #[{ accessFlags := 2, nameIndex := 5, descriptorIndex := 6, attributes := #[] }, { accessFlags := 265, nameIndex := 727, descriptorIndex := 728, attributes := #[] }] 49 2 #[] #[{ accessFlags := 25, nameIndex := 507, descriptorIndex := 526, attributes := #[] }, { accessFlags := 25, nameIndex := 399, descriptorIndex := 155, attributes := #[] }, { accessFlags := 25, nameIndex := 396, descriptorIndex := 155, attributes := #[] }, { accessFlags := 10, nameIndex := 525, descriptorIndex := 526, attributes := #[] }, { accessFlags := 26, nameIndex := 674, descriptorIndex := 12, attributes := #[] }, { accessFlags := 26, nameIndex := 677, descriptorIndex := 12, attributes := #[] }, { accessFlags := 10, nameIndex := 11, descriptorIndex := 12, attributes := #[] }, { accessFlags := 74, nameIndex := 175, descriptorIndex := 176, attributes := #[] }, { accessFlags := 10, nameIndex := 491, descriptorIndex := 222, attributes := #[] }, { accessFlags := 74, nameIndex := 29, descriptorIndex := 30, attributes := #[] }, { accessFlags := 74, nameIndex := 154, descriptorIndex := 155, attributes := #[] }, { accessFlags := 10, nameIndex := 217, descriptorIndex := 218, attributes := #[] }, { accessFlags := 10, nameIndex := 221, descriptorIndex := 222, attributes := #[] }, { accessFlags := 8, nameIndex := 562, descriptorIndex := 563, attributes := #[] }])
  fields := #[{ name := "in", type := (.object "java/io/InputStream"), accessFlags := 25, slot := 0, constantValue := 0 }, { name := "out", type := (.object "java/io/PrintStream"), accessFlags := 25, slot := 1, constantValue := 0 }, { name := "err", type := (.object "java/io/PrintStream"), accessFlags := 25, slot := 2, constantValue := 0 }, { name := "initialIn", type := (.object "java/io/InputStream"), accessFlags := 10, slot := 3, constantValue := 0 }, { name := "NEVER", type := .int, accessFlags := 26, slot := 4, constantValue := 0 }, { name := "MAYBE", type := .int, accessFlags := 26, slot := 5, constantValue := 0 }, { name := "allowSecurityManager", type := .int, accessFlags := 10, slot := 6, constantValue := 0 }, { name := "security", type := (.object "java/lang/SecurityManager"), accessFlags := 74, slot := 7, constantValue := 0 }, { name := "notSupportedJnuEncoding", type := (.object "java/lang/String"), accessFlags := 10, slot := 8, constantValue := 0 }, { name := "cons", type := (.object "java/io/Console"), accessFlags := 74, slot := 9, constantValue := 0 }, { name := "initialErrStream", type := (.object "java/io/PrintStream"), accessFlags := 74, slot := 10, constantValue := 0 }, { name := "props", type := (.object "java/util/Properties"), accessFlags := 10, slot := 11, constantValue := 0 }, { name := "lineSeparator", type := (.object "java/lang/String"), accessFlags := 10, slot := 12, constantValue := 0 }, { name := "bootLayer", type := (.object "java/lang/ModuleLayer"), accessFlags := 8, slot := 13, constantValue := 0 }]
  methods := #[k12m0, k12m1]
  instanceTypes := #[]
  staticTypes := #[(.object "java/io/InputStream"), (.object "java/io/PrintStream"), (.object "java/io/PrintStream"), (.object "java/io/InputStream"), .int, .int, .int, (.object "java/lang/SecurityManager"), (.object "java/lang/String"), (.object "java/io/Console"), (.object "java/io/PrintStream"), (.object "java/util/Properties"), (.object "java/lang/String"), (.object "java/lang/ModuleLayer")]
  resolved := Array.replicate 834 none
  statics := none }

def pool13 : Array CpInfo := pool [(2, .class_ 4), (1, u "java/lang/Object"), (0, u "<init>"), (0, u "()V"), (17, .class_ 26), (1, u "jdk/internal/util/Preconditions"), (20, u "checkFromToIndex"), (1, u "checkFromIndexSize"), (5, .class_ 56), (0, u "jdk/internal/util/Preconditions$4"), (57, .class_ 115), (0, u "jdk/internal/util/Preconditions$1"), (7, u "SIOOBE_FORMATTER"), (0, u "Ljava/util/function/BiFunction;"), (0, .class_ 126), (0, u "jdk/internal/util/Preconditions$2"), (3, u "AIOOBE_FORMATTER"), (0, .class_ 132), (0, u "jdk/internal/util/Preconditions$3"), (3, u "IOOBE_FORMATTER"), (46, u "(IIILjava/util/function/BiFunction;)I")] 10

def k13m0 : Method := { name := "<init>", desc := "()V", sig := { parameters := [], returnType := none }, accessFlags := 1, code := none }
def k13c1 : Code := { maxStack := 4, maxLocals := 4, code := jdk_41_method_12_code, exceptionTable := #[], attributes := #[] }
def k13m1 : Method := { name := "checkFromToIndex", desc := "(IIILjava/util/function/BiFunction;)I", sig := { parameters := [.int, .int, .int, (.object "java/util/function/BiFunction")], returnType := some .int }, accessFlags := 9, code := some k13c1 }
def k13c2 : Code := { maxStack := 4, maxLocals := 4, code := jdk_41_method_13_code, exceptionTable := #[], attributes := #[] }
def k13m2 : Method := { name := "checkFromIndexSize", desc := "(IIILjava/util/function/BiFunction;)I", sig := { parameters := [.int, .int, .int, (.object "java/util/function/BiFunction")], returnType := some .int }, accessFlags := 9, code := some k13c2 }
/-- jdk/internal/util/Preconditions -/
def k13 : Class := { plain "jdk/internal/util/Preconditions" (some 0) with
  accessFlags := 33
  interfaces := #[]
  cf := some (fileOf pool13 24 #[.nestMembers #[55, 131, 125, 114]] #[{ accessFlags := 1, nameIndex := 5, descriptorIndex := 6, attributes := #[] }, { accessFlags := 9, nameIndex := 47, descriptorIndex := 183, attributes := #[] }, { accessFlags := 9, nameIndex := 49, descriptorIndex := 183, attributes := #[] }] 33 2 #[] #[{ accessFlags := 25, nameIndex := 123, descriptorIndex := 124, attributes := #[] }, { accessFlags := 25, nameIndex := 130, descriptorIndex := 124, attributes := #[] }, { accessFlags := 25, nameIndex := 136, descriptorIndex := 124, attributes := #[] }])
  fields := #[{ name := "SIOOBE_FORMATTER", type := (.object "java/util/function/BiFunction"), accessFlags := 25, slot := 0, constantValue := 0 }, { name := "AIOOBE_FORMATTER", type := (.object "java/util/function/BiFunction"), accessFlags := 25, slot := 1, constantValue := 0 }, { name := "IOOBE_FORMATTER", type := (.object "java/util/function/BiFunction"), accessFlags := 25, slot := 2, constantValue := 0 }]
  methods := #[k13m0, k13m1, k13m2]
  instanceTypes := #[]
  staticTypes := #[(.object "java/util/function/BiFunction"), (.object "java/util/function/BiFunction"), (.object "java/util/function/BiFunction")]
  resolved := Array.replicate 194 none
  statics := some 1 }

def pool14 : Array CpInfo := pool [(2, .class_ 4), (1, u "java/lang/Object"), (0, u "<init>"), (0, u "()V"), (35, .class_ 44), (1, u "java/util/Objects"), (0, u "requireNonNull"), (0, u "(Ljava/lang/Object;)Ljava/lang/Object;")] 137

def k14m0 : Method := { name := "<init>", desc := "()V", sig := { parameters := [], returnType := none }, accessFlags := 2, code := none }
def k14c1 : Code := { maxStack := 2, maxLocals := 1, code := jdk_31_method_10_code, exceptionTable := #[], attributes := #[] }
def k14m1 : Method := { name := "requireNonNull", desc := "(Ljava/lang/Object;)Ljava/lang/Object;", sig := { parameters := [(.object "java/lang/Object")], returnType := some (.object "java/lang/Object") }, accessFlags := 9, code := some k14c1 }
/-- java/util/Objects -/
def k14 : Class := { plain "java/util/Objects" (some 0) with
  accessFlags := 49
  interfaces := #[]
  cf := some (fileOf pool14 42 #[] #[{ accessFlags := 2, nameIndex := 5, descriptorIndex := 6, attributes := #[] }, { accessFlags := 9, nameIndex := 45, descriptorIndex := 46, attributes := #[] }] 49 2 #[] #[])
  fields := #[]
  methods := #[k14m0, k14m1]
  instanceTypes := #[]
  staticTypes := #[]
  resolved := Array.replicate 184 none
  statics := none }

def pool15 : Array CpInfo := pool [(4, .class_ 6), (1, u "java/lang/Object"), (0, u "<init>"), (0, u "()V"), (5, .class_ 16), (1, u "java/lang/StringLatin1"), (11, .methodref 29 30), (0, .class_ 31), (0, .nameAndType 32 33), (0, u "java/lang/System"), (0, u "arraycopy"), (0, u "(Ljava/lang/Object;ILjava/lang/Object;II)V"), (87, u "$assertionsDisabled"), (0, u "Z"), (98, .class_ 223), (1, u "java/lang/StringLatin1$LinesSpliterator"), (55, u "getBytes"), (0, u "([BII[BI)V"), (109, .class_ 391), (0, u "java/lang/StringLatin1$CharsSpliterator")] 3

def k15m0 : Method := { name := "<init>", desc := "()V", sig := { parameters := [], returnType := none }, accessFlags := 0, code := none }
def k15c1 : Code := { maxStack := 6, maxLocals := 5, code := jdk_43_method_12_code, exceptionTable := #[], attributes := #[] }
def k15m1 : Method := { name := "getBytes", desc := "([BII[BI)V", sig := { parameters := [(.array .byte), .int, .int, (.array .byte), .int], returnType := none }, accessFlags := 9, code := some k15c1 }
/-- java/lang/StringLatin1 -/
def k15 : Class := { plain "java/lang/StringLatin1" (some 0) with
  accessFlags := 48
  interfaces := #[]
  cf := some (fileOf pool15 14 #[.nestMembers #[390, 221]] #[{ accessFlags := 0, nameIndex := 7, descriptorIndex := 8, attributes := #[] }, { accessFlags := 9, nameIndex := 279, descriptorIndex := 280, attributes := #[] }] 48 4 #[] #[{ accessFlags := 4120, nameIndex := 121, descriptorIndex := 122, attributes := #[] }])
  fields := #[{ name := "$assertionsDisabled", type := .boolean, accessFlags := 4120, slot := 0, constantValue := 0 }]
  methods := #[k15m0, k15m1]
  instanceTypes := #[]
  staticTypes := #[.boolean]
  resolved := Array.replicate 395 none
  statics := none }

def pool16 : Array CpInfo := pool [(9, u "<init>"), (6, .class_ 18), (1, u "java/lang/Object"), (0, u "()V"), (1, .class_ 23), (1, u "jdk/internal/util/ArraysSupport"), (0, u "LOG2_ARRAY_LONG_INDEX_SCALE"), (0, u "I"), (2, u "U"), (0, u "Ljdk/internal/misc/Unsafe;"), (8, u "BIG_ENDIAN"), (0, u "Z"), (8, u "LOG2_BYTE_BIT_SIZE"), (4, u "LOG2_ARRAY_INT_INDEX_SCALE"), (54, u "JLA"), (0, u "Ljdk/internal/access/JavaLangAccess;"), (11, u "LOG2_ARRAY_BOOLEAN_INDEX_SCALE"), (9, u "LOG2_ARRAY_BYTE_INDEX_SCALE"), (5, u "LOG2_ARRAY_CHAR_INDEX_SCALE"), (5, u "LOG2_ARRAY_SHORT_INDEX_SCALE"), (18, u "LOG2_ARRAY_FLOAT_INDEX_SCALE"), (24, u "LOG2_ARRAY_DOUBLE_INDEX_SCALE"), (89, u "T_BOOLEAN"), (2, u "T_CHAR"), (1, u "T_FLOAT"), (1, u "T_DOUBLE"), (1, u "T_BYTE"), (1, u "T_SHORT"), (1, u "T_INT"), (1, u "T_LONG"), (1, u "SOFT_MAX_ARRAY_LENGTH")] 83

def k16m0 : Method := { name := "<init>", desc := "()V", sig := { parameters := [], returnType := none }, accessFlags := 2, code := none }
/-- jdk/internal/util/ArraysSupport -/
def k16 : Class := { plain "jdk/internal/util/ArraysSupport" (some 0) with
  accessFlags := 33
  interfaces := #[]
  cf := some (fileOf pool16 21 #[] #[{ accessFlags := 2, nameIndex := 9, descriptorIndex := 19, attributes := #[] }] 33 16 #[] #[{ accessFlags := 24, nameIndex := 28, descriptorIndex := 29, attributes := #[] }, { accessFlags := 26, nameIndex := 38, descriptorIndex := 39, attributes := #[] }, { accessFlags := 25, nameIndex := 121, descriptorIndex := 25, attributes := #[] }, { accessFlags := 25, nameIndex := 131, descriptorIndex := 25, attributes := #[] }, { accessFlags := 25, nameIndex := 137, descriptorIndex := 25, attributes := #[] }, { accessFlags := 25, nameIndex := 143, descriptorIndex := 25, attributes := #[] }, { accessFlags := 25, nameIndex := 53, descriptorIndex := 25, attributes := #[] }, { accessFlags := 25, nameIndex := 24, descriptorIndex := 25, attributes := #[] }, { accessFlags := 25, nameIndex := 162, descriptorIndex := 25, attributes := #[] }, { accessFlags := 25, nameIndex := 187, descriptorIndex := 25, attributes := #[] }, { accessFlags := 26, nameIndex := 48, descriptorIndex := 25, attributes := #[] }, { accessFlags := 25, nameIndex := 277, descriptorIndex := 25, attributes := #[] }, { accessFlags := 25, nameIndex := 280, descriptorIndex := 25, attributes := #[] }, { accessFlags := 25, nameIndex := 282, descriptorIndex := 25, attributes := #[] }, { accessFlags := 25, nameIndex := 284, descriptorIndex := 25, attributes := #[] }, { accessFlags := 25, nameIndex := 286, descriptorIndex := 25, attributes := #[] }, { accessFlags := 25, nameIndex := 288, descriptorIndex := 25, attributes := #[] }, { accessFlags := 25, nameIndex := 290, descriptorIndex := 25, attributes := #[] }, { accessFlags := 25, nameIndex := 292, descriptorIndex := 25, attributes := #[] }, { accessFlags := 26, nameIndex := 108, descriptorIndex := 109, attributes := #[] }, { accessFlags := 25, nameIndex := 294, descriptorIndex := 25, attributes := #[] }])
  fields := #[{ name := "U", type := (.object "jdk/internal/misc/Unsafe"), accessFlags := 24, slot := 0, constantValue := 0 }, { name := "BIG_ENDIAN", type := .boolean, accessFlags := 26, slot := 1, constantValue := 0 }, { name := "LOG2_ARRAY_BOOLEAN_INDEX_SCALE", type := .int, accessFlags := 25, slot := 2, constantValue := 0 }, { name := "LOG2_ARRAY_BYTE_INDEX_SCALE", type := .int, accessFlags := 25, slot := 3, constantValue := 0 }, { name := "LOG2_ARRAY_CHAR_INDEX_SCALE", type := .int, accessFlags := 25, slot := 4, constantValue := 0 }, { name := "LOG2_ARRAY_SHORT_INDEX_SCALE", type := .int, accessFlags := 25, slot := 5, constantValue := 0 }, { name := "LOG2_ARRAY_INT_INDEX_SCALE", type := .int, accessFlags := 25, slot := 6, constantValue := 0 }, { name := "LOG2_ARRAY_LONG_INDEX_SCALE", type := .int, accessFlags := 25, slot := 7, constantValue := 0 }, { name := "LOG2_ARRAY_FLOAT_INDEX_SCALE", type := .int, accessFlags := 25, slot := 8, constantValue := 0 }, { name := "LOG2_ARRAY_DOUBLE_INDEX_SCALE", type := .int, accessFlags := 25, slot := 9, constantValue := 0 }, { name := "LOG2_BYTE_BIT_SIZE", type := .int, accessFlags := 26, slot := 10, constantValue := 0 }, { name := "T_BOOLEAN", type := .int, accessFlags := 25, slot := 11, constantValue := 0 }, { name := "T_CHAR", type := .int, accessFlags := 25, slot := 12, constantValue := 0 }, { name := "T_FLOAT", type := .int, accessFlags := 25, slot := 13, constantValue := 0 }, { name := "T_DOUBLE", type := .int, accessFlags := 25, slot := 14, constantValue := 0 }, { name := "T_BYTE", type := .int, accessFlags := 25, slot := 15, constantValue := 0 }, { name := "T_SHORT", type := .int, accessFlags := 25, slot := 16, constantValue := 0 }, { name := "T_INT", type := .int, accessFlags := 25, slot := 17, constantValue := 0 }, { name := "T_LONG", type := .int, accessFlags := 25, slot := 18, constantValue := 0 }, { name := "JLA", type := (.object "jdk/internal/access/JavaLangAccess"), accessFlags := 26, slot := 19, constantValue := 0 }, { name := "SOFT_MAX_ARRAY_LENGTH", type := .int, accessFlags := 25, slot := 20, constantValue := 0 }]
  methods := #[k16m0]
  instanceTypes := #[]
  staticTypes := #[(.object "jdk/internal/misc/Unsafe"), .boolean, .int, .int, .int, .int, .int, .int, .int, .int, .int, .int, .int, .int, .int, .int, .int, .int, .int, (.object "jdk/internal/access/JavaLangAccess"), .int]
  resolved := Array.replicate 378 none
  statics := none }

def pool17 : Array CpInfo := pool [(1, u "java/lang/Cloneable"), (0, .class_ 1), (0, u "java/lang/Object"), (0, .class_ 3)] 3

/-- java/lang/Cloneable -/
def k17 : Class := { plain "java/lang/Cloneable" (some 0) with
  accessFlags := 1537
  interfaces := #[]
  cf := some (fileOf pool17 2 #[] #[] 1537 4 #[] #[])
  fields := #[]
  methods := #[]
  instanceTypes := #[]
  staticTypes := #[]
  resolved := Array.replicate 8 none
  statics := none }

/-- the primitive byte -/
def k18 : Class := { plain "byte" none with kind := .primitive 'B', accessFlags := 0x411 }
/-- [B -/
def k19 : Class := { plain "[B" (some 0) with kind := .array 18 .byte, interfaces := #[17, 2], accessFlags := 1041 }

/-- the primitive char -/
def k20 : Class := { plain "char" none with kind := .primitive 'C', accessFlags := 0x411 }
/-- [C -/
def k21 : Class := { plain "[C" (some 0) with kind := .array 20 .char, interfaces := #[17, 2], accessFlags := 1041 }

/-- the primitive int -/
def k22 : Class := { plain "int" none with kind := .primitive 'I', accessFlags := 0x411 }
/-- [I -/
def k23 : Class := { plain "[I" (some 0) with kind := .array 22 .int, interfaces := #[17, 2], accessFlags := 1041 }

def heap : Heap := #[{ cls := 7, slots := #[.long 0, .int 1, .null, .int 0, .null, .int 0, .int 0], vm := .statics 7 },
  { cls := 13, slots := #[.null, .null, .null], vm := .statics 13 }]
def classes : Array Class := #[k0, k1, k2, k3, k4, k5, k6, k7, k8, k9, k10, k11, k12, k13, k14, k15, k16, k17, k18, k19, k20, k21, k22, k23]
def interned : List (Array UInt16 × Addr) := []
def slotsUsed : Nat := 10
def theMethod : MethodId := ⟨1, 1⟩
def args0 : Array Value := #[.int 1, .int 2, .int 3, .int 4, .int 5]
def aboutOver (below : List Frame) : State where
  vm := { classes := classes, interned := interned.toArray }
  heap := heap
  slotsUsed := slotsUsed
  threads := #[{ frames := .invoking theMethod args0 :: below }]
def below0 : List Frame := [.native { method := ⟨0, 0⟩, args := #[] }]
def about1 : State := aboutOver below0
def p0 : Program := .bare "" "" ""
def e0 : Env := launch0.env 0 0 0
theorem w_frames : about1.frames = Frame.invoking theMethod args0 :: below0 := rfl
set_option maxRecDepth 65536 in
theorem w_args : argsFit about1.vm theMethod args0 = true := by decide +kernel
set_option maxRecDepth 65536 in
theorem w_heap : heapFits about1 = true := by decide +kernel
set_option maxRecDepth 65536 in
theorem w_runnable : about1.curStatus? = some .runnable := by decide +kernel
set_option maxRecDepth 65536 in
theorem w_alone : about1.alone = true := by decide +kernel
set_option maxRecDepth 65536 in
theorem w_named : about1.methodNamed? x = some theMethod := by decide +kernel
set_option maxRecDepth 65536 in
theorem w_hears : about1.hears theMethod below0 = true := by decide +kernel
set_option maxRecDepth 65536 in
theorem w_ripe : about1.ripe theMethod args0 below0 = true := by decide +kernel
theorem w_running : about1.status = .running := rfl
set_option maxRecDepth 65536 in
theorem w_room : about1.hasRoom e0.platform room_1 = true :=
  launch0.hasRoom_least _ room_1 (by decide +kernel) (by decide +kernel) (by decide +kernel) (by decide +kernel) (by decide +kernel) (by decide +kernel)
theorem allAtoms_all (ts : List Jvm.Cond) (a : Array Jvm.Value) (st : Jvm.State) : (allAtoms ts).before a st = ts.all (fun c => c.before a st) := by
  induction ts with
  | nil => rfl
  | cons c t ih =>
    show (Jvm.Cond.and c (allAtoms t)).before a st = _
    rw [Jvm.Cond.before_and, ih, List.all_cons]
def words1 : List Jvm.Cond := Jvm.Cond.code x code maxLocals ret :: tables_1
/-- a 'code' word, met by the world's own term for the bytes: nothing is compared byte by byte -/
theorem code_word {y : MethodName} {bytes : ByteArray} {mx : Nat} {rt : Option FieldType} {a : Array Value} {s : State} {m : MethodId} {meth : Method} {c : Code} (h1 : s.methodNamed? y = some m) (h2 : s.vm.method? m = some meth) (h3 : meth.code = some c) (h4 : c.code = bytes)
    (h5 : (c.maxLocals == mx && c.exceptionTable.isEmpty && decide (c.maxStack ≤ mostOperands) && decide (meth.sig.returnType = rt) && !meth.locks && decide (parseMethodDescriptor y.desc = some meth.sig)) = true) : (Jvm.Cond.code y bytes mx rt).before a s = true := by
  simp only [Bool.and_eq_true, beq_iff_eq, Bool.not_eq_true', decide_eq_true_eq] at h5
  obtain ⟨⟨⟨⟨⟨g1, g2⟩, g3⟩, g4⟩, g5⟩, g6⟩ := h5
  simp [Cond.before, Cond.holds, Cond.value, h1, h2, h3, h4, g1, g2, g3, g4, g5, g6]
def isCode : Jvm.Cond → Bool
  | .code _ _ _ _ => true
  | _ => false
theorem all_split {L : List Jvm.Cond} {P : Jvm.Cond → Bool} (h1 : L.all (fun c => isCode c || P c) = true) (h2 : ∀ c ∈ L.filter isCode, P c = true) : L.all P = true := by
  refine List.all_eq_true.mpr fun c hc => ?_
  have h := List.all_eq_true.mp h1 c hc
  rcases Bool.eq_false_or_eq_true (isCode c) with hi | hi
  · exact h2 c (List.mem_filter.mpr ⟨hc, hi⟩)
  · simpa [hi] using h
set_option maxRecDepth 65536 in
theorem w_c0 : (Jvm.Cond.code x code maxLocals ret).before args0 about1 = true := code_word (m := ⟨1, 1⟩) (meth := k1m1) (c := k1c1) (by decide +kernel) rfl rfl rfl (by decide +kernel)
set_option maxRecDepth 65536 in
theorem w_c1 : (Jvm.Cond.code ({ cls := "java/lang/String", name := "<init>", desc := "([C)V" } : Jvm.MethodName) jdk_42_method_3_code (2 : Nat) (Option.none : Option Jvm.ClassFile.FieldType)).before args0 about1 = true := code_word (m := ⟨7, 1⟩) (meth := k7m1) (c := k7c1) (by decide +kernel) rfl rfl rfl (by decide +kernel)
set_option maxRecDepth 65536 in
theorem w_c2 : (Jvm.Cond.code ({ cls := "java/lang/String", name := "<init>", desc := "([CIILjava/lang/Void;)V" } : Jvm.MethodName) jdk_42_method_149_code (6 : Nat) (Option.none : Option Jvm.ClassFile.FieldType)).before args0 about1 = true := code_word (m := ⟨7, 4⟩) (meth := k7m4) (c := k7c4) (by decide +kernel) rfl rfl rfl (by decide +kernel)
set_option maxRecDepth 65536 in
theorem w_c3 : (Jvm.Cond.code ({ cls := "java/lang/Object", name := "<init>", desc := "()V" } : Jvm.MethodName) object_method_1_code (1 : Nat) (Option.none : Option Jvm.ClassFile.FieldType)).before args0 about1 = true := code_word (m := ⟨0, 0⟩) (meth := k0m0) (c := k0c0) (by decide +kernel) rfl rfl rfl (by decide +kernel)
set_option maxRecDepth 65536 in
theorem w_c4 : (Jvm.Cond.code ({ cls := "java/lang/StringUTF16", name := "compress", desc := "([CII)[B" } : Jvm.MethodName) jdk_52_method_16_code (6 : Nat) (Option.some (Jvm.ClassFile.FieldType.array Jvm.ClassFile.FieldType.byte))).before args0 about1 = true := code_word (m := ⟨8, 2⟩) (meth := k8m2) (c := k8c2) (by decide +kernel) rfl rfl rfl (by decide +kernel)
set_option maxRecDepth 65536 in
theorem w_c5 : (Jvm.Cond.code ({ cls := "java/lang/StringUTF16", name := "compress", desc := "([CI[BII)I" } : Jvm.MethodName) jdk_52_method_21_code (7 : Nat) (Option.some Jvm.ClassFile.FieldType.int)).before args0 about1 = true := code_word (m := ⟨8, 3⟩) (meth := k8m3) (c := k8c3) (by decide +kernel) rfl rfl rfl (by decide +kernel)
set_option maxRecDepth 65536 in
theorem w_c6 : (Jvm.Cond.code ({ cls := "java/lang/StringUTF16", name := "coderFromArrayLen", desc := "([BI)B" } : Jvm.MethodName) jdk_52_method_15_code (2 : Nat) (Option.some Jvm.ClassFile.FieldType.byte)).before args0 about1 = true := code_word (m := ⟨8, 1⟩) (meth := k8m1) (c := k8c1) (by decide +kernel) rfl rfl rfl (by decide +kernel)
set_option maxRecDepth 65536 in
theorem w_c7 : (Jvm.Cond.code ({ cls := "com/example/envelope/envelope/JsonOutput", name := "<init>", desc := "(I)V" } : Jvm.MethodName) prog_16_method_1_code (2 : Nat) (Option.none : Option Jvm.ClassFile.FieldType)).before args0 about1 = true := code_word (m := ⟨9, 0⟩) (meth := k9m0) (c := k9c0) (by decide +kernel) rfl rfl rfl (by decide +kernel)
set_option maxRecDepth 65536 in
theorem w_c8 : (Jvm.Cond.code ({ cls := "com/example/envelope/envelope/JsonOutput", name := "append", desc := "(C)V" } : Jvm.MethodName) prog_16_method_9_code (2 : Nat) (Option.none : Option Jvm.ClassFile.FieldType)).before args0 about1 = true := code_word (m := ⟨9, 1⟩) (meth := k9m1) (c := k9c1) (by decide +kernel) rfl rfl rfl (by decide +kernel)
set_option maxRecDepth 65536 in
theorem w_c9 : (Jvm.Cond.code ({ cls := "com/example/envelope/envelope/JsonOutput", name := "ensureRoom", desc := "(J)V" } : Jvm.MethodName) prog_16_method_23_code (7 : Nat) (Option.none : Option Jvm.ClassFile.FieldType)).before args0 about1 = true := code_word (m := ⟨9, 5⟩) (meth := k9m5) (c := k9c5) (by decide +kernel) rfl rfl rfl (by decide +kernel)
set_option maxRecDepth 65536 in
theorem w_c10 : (Jvm.Cond.code ({ cls := "java/lang/Math", name := "max", desc := "(JJ)J" } : Jvm.MethodName) jdk_29_method_66_code (4 : Nat) (Option.some Jvm.ClassFile.FieldType.long)).before args0 about1 = true := code_word (m := ⟨10, 1⟩) (meth := k10m1) (c := k10c1) (by decide +kernel) rfl rfl rfl (by decide +kernel)
set_option maxRecDepth 65536 in
theorem w_c11 : (Jvm.Cond.code ({ cls := "java/lang/Math", name := "min", desc := "(JJ)J" } : Jvm.MethodName) jdk_29_method_70_code (4 : Nat) (Option.some Jvm.ClassFile.FieldType.long)).before args0 about1 = true := code_word (m := ⟨10, 3⟩) (meth := k10m3) (c := k10c3) (by decide +kernel) rfl rfl rfl (by decide +kernel)
set_option maxRecDepth 65536 in
theorem w_c12 : (Jvm.Cond.code ({ cls := "java/util/Arrays", name := "copyOf", desc := "([BI)[B" } : Jvm.MethodName) jdk_65_method_121_code (3 : Nat) (Option.some (Jvm.ClassFile.FieldType.array Jvm.ClassFile.FieldType.byte))).before args0 about1 = true := code_word (m := ⟨11, 1⟩) (meth := k11m1) (c := k11c1) (by decide +kernel) rfl rfl rfl (by decide +kernel)
set_option maxRecDepth 65536 in
theorem w_c13 : (Jvm.Cond.code ({ cls := "java/lang/Math", name := "min", desc := "(II)I" } : Jvm.MethodName) jdk_29_method_69_code (2 : Nat) (Option.some Jvm.ClassFile.FieldType.int)).before args0 about1 = true := code_word (m := ⟨10, 2⟩) (meth := k10m2) (c := k10c2) (by decide +kernel) rfl rfl rfl (by decide +kernel)
set_option maxRecDepth 65536 in
theorem w_c14 : (Jvm.Cond.code ({ cls := "com/example/envelope/envelope/JsonOutput", name := "last", desc := "()B" } : Jvm.MethodName) prog_16_method_15_code (1 : Nat) (Option.some Jvm.ClassFile.FieldType.byte)).before args0 about1 = true := code_word (m := ⟨9, 3⟩) (meth := k9m3) (c := k9c3) (by decide +kernel) rfl rfl rfl (by decide +kernel)
set_option maxRecDepth 65536 in
theorem w_c15 : (Jvm.Cond.code ({ cls := "com/example/envelope/envelope/JsonOutput", name := "appendAscii", desc := "(Ljava/lang/String;)V" } : Jvm.MethodName) prog_16_method_10_code (2 : Nat) (Option.none : Option Jvm.ClassFile.FieldType)).before args0 about1 = true := code_word (m := ⟨9, 2⟩) (meth := k9m2) (c := k9c2) (by decide +kernel) rfl rfl rfl (by decide +kernel)
set_option maxRecDepth 65536 in
theorem w_c16 : (Jvm.Cond.code ({ cls := "java/lang/String", name := "length", desc := "()I" } : Jvm.MethodName) jdk_42_method_54_code (1 : Nat) (Option.some Jvm.ClassFile.FieldType.int)).before args0 about1 = true := code_word (m := ⟨7, 2⟩) (meth := k7m2) (c := k7c2) (by decide +kernel) rfl rfl rfl (by decide +kernel)
set_option maxRecDepth 65536 in
theorem w_c17 : (Jvm.Cond.code ({ cls := "java/lang/String", name := "coder", desc := "()B" } : Jvm.MethodName) jdk_42_method_152_code (1 : Nat) (Option.some Jvm.ClassFile.FieldType.byte)).before args0 about1 = true := code_word (m := ⟨7, 5⟩) (meth := k7m5) (c := k7c5) (by decide +kernel) rfl rfl rfl (by decide +kernel)
set_option maxRecDepth 65536 in
theorem w_c18 : (Jvm.Cond.code ({ cls := "com/example/envelope/envelope/JsonOutput", name := "copyAscii", desc := "(Ljava/lang/String;II)V" } : Jvm.MethodName) prog_16_method_19_code (4 : Nat) (Option.none : Option Jvm.ClassFile.FieldType)).before args0 about1 = true := code_word (m := ⟨9, 4⟩) (meth := k9m4) (c := k9c4) (by decide +kernel) rfl rfl rfl (by decide +kernel)
set_option maxRecDepth 65536 in
theorem w_c19 : (Jvm.Cond.code ({ cls := "java/lang/String", name := "getBytes", desc := "(II[BI)V" } : Jvm.MethodName) jdk_42_method_62_code (5 : Nat) (Option.none : Option Jvm.ClassFile.FieldType)).before args0 about1 = true := code_word (m := ⟨7, 3⟩) (meth := k7m3) (c := k7c3) (by decide +kernel) rfl rfl rfl (by decide +kernel)
set_option maxRecDepth 65536 in
theorem w_c20 : (Jvm.Cond.code ({ cls := "java/lang/String", name := "checkBoundsBeginEnd", desc := "(III)V" } : Jvm.MethodName) jdk_42_method_158_code (3 : Nat) (Option.none : Option Jvm.ClassFile.FieldType)).before args0 about1 = true := code_word (m := ⟨7, 8⟩) (meth := k7m8) (c := k7c8) (by decide +kernel) rfl rfl rfl (by decide +kernel)
set_option maxRecDepth 65536 in
theorem w_c21 : (Jvm.Cond.code ({ cls := "jdk/internal/util/Preconditions", name := "checkFromToIndex", desc := "(IIILjava/util/function/BiFunction;)I" } : Jvm.MethodName) jdk_41_method_12_code (4 : Nat) (Option.some Jvm.ClassFile.FieldType.int)).before args0 about1 = true := code_word (m := ⟨13, 1⟩) (meth := k13m1) (c := k13c1) (by decide +kernel) rfl rfl rfl (by decide +kernel)
set_option maxRecDepth 65536 in
theorem w_c22 : (Jvm.Cond.code ({ cls := "java/util/Objects", name := "requireNonNull", desc := "(Ljava/lang/Object;)Ljava/lang/Object;" } : Jvm.MethodName) jdk_31_method_10_code (1 : Nat) (Option.some (Jvm.ClassFile.FieldType.object "java/lang/Object"))).before args0 about1 = true := code_word (m := ⟨14, 1⟩) (meth := k14m1) (c := k14c1) (by decide +kernel) rfl rfl rfl (by decide +kernel)
set_option maxRecDepth 65536 in
theorem w_c23 : (Jvm.Cond.code ({ cls := "java/lang/String", name := "checkBoundsOffCount", desc := "(III)I" } : Jvm.MethodName) jdk_42_method_157_code (3 : Nat) (Option.some Jvm.ClassFile.FieldType.int)).before args0 about1 = true := code_word (m := ⟨7, 7⟩) (meth := k7m7) (c := k7c7) (by decide +kernel) rfl rfl rfl (by decide +kernel)
set_option maxRecDepth 65536 in
theorem w_c24 : (Jvm.Cond.code ({ cls := "jdk/internal/util/Preconditions", name := "checkFromIndexSize", desc := "(IIILjava/util/function/BiFunction;)I" } : Jvm.MethodName) jdk_41_method_13_code (4 : Nat) (Option.some Jvm.ClassFile.FieldType.int)).before args0 about1 = true := code_word (m := ⟨13, 2⟩) (meth := k13m2) (c := k13c2) (by decide +kernel) rfl rfl rfl (by decide +kernel)
set_option maxRecDepth 65536 in
theorem w_c25 : (Jvm.Cond.code ({ cls := "java/lang/String", name := "isLatin1", desc := "()Z" } : Jvm.MethodName) jdk_42_method_154_code (1 : Nat) (Option.some Jvm.ClassFile.FieldType.boolean)).before args0 about1 = true := code_word (m := ⟨7, 6⟩) (meth := k7m6) (c := k7c6) (by decide +kernel) rfl rfl rfl (by decide +kernel)
set_option maxRecDepth 65536 in
theorem w_c26 : (Jvm.Cond.code ({ cls := "java/lang/StringLatin1", name := "getBytes", desc := "([BII[BI)V" } : Jvm.MethodName) jdk_43_method_12_code (5 : Nat) (Option.none : Option Jvm.ClassFile.FieldType)).before args0 about1 = true := code_word (m := ⟨15, 1⟩) (meth := k15m1) (c := k15c1) (by decide +kernel) rfl rfl rfl (by decide +kernel)
def codes1 : List Jvm.Cond := [Jvm.Cond.code x code maxLocals ret, Jvm.Cond.code ({ cls := "java/lang/String", name := "<init>", desc := "([C)V" } : Jvm.MethodName) jdk_42_method_3_code (2 : Nat) (Option.none : Option Jvm.ClassFile.FieldType), Jvm.Cond.code ({ cls := "java/lang/String", name := "<init>", desc := "([CIILjava/lang/Void;)V" } : Jvm.MethodName) jdk_42_method_149_code (6 : Nat) (Option.none : Option Jvm.ClassFile.FieldType), Jvm.Cond.code ({ cls := "java/lang/Object", name := "<init>", desc := "()V" } : Jvm.MethodName) object_method_1_code (1 : Nat) (Option.none : Option Jvm.ClassFile.FieldType), Jvm.Cond.code ({ cls := "java/lang/StringUTF16", name := "compress", desc := "([CII)[B" } : Jvm.MethodName) jdk_52_method_16_code (6 : Nat) (Option.some (Jvm.ClassFile.FieldType.array Jvm.ClassFile.FieldType.byte)), Jvm.Cond.code ({ cls := "java/lang/StringUTF16", name := "compress", desc := "([CI[BII)I" } : Jvm.MethodName) jdk_52_method_21_code (7 : Nat) (Option.some Jvm.ClassFile.FieldType.int), Jvm.Cond.code ({ cls := "java/lang/StringUTF16", name := "coderFromArrayLen", desc := "([BI)B" } : Jvm.MethodName) jdk_52_method_15_code (2 : Nat) (Option.some Jvm.ClassFile.FieldType.byte), Jvm.Cond.code ({ cls := "com/example/envelope/envelope/JsonOutput", name := "<init>", desc := "(I)V" } : Jvm.MethodName) prog_16_method_1_code (2 : Nat) (Option.none : Option Jvm.ClassFile.FieldType), Jvm.Cond.code ({ cls := "com/example/envelope/envelope/JsonOutput", name := "append", desc := "(C)V" } : Jvm.MethodName) prog_16_method_9_code (2 : Nat) (Option.none : Option Jvm.ClassFile.FieldType), Jvm.Cond.code ({ cls := "com/example/envelope/envelope/JsonOutput", name := "ensureRoom", desc := "(J)V" } : Jvm.MethodName) prog_16_method_23_code (7 : Nat) (Option.none : Option Jvm.ClassFile.FieldType), Jvm.Cond.code ({ cls := "java/lang/Math", name := "max", desc := "(JJ)J" } : Jvm.MethodName) jdk_29_method_66_code (4 : Nat) (Option.some Jvm.ClassFile.FieldType.long), Jvm.Cond.code ({ cls := "java/lang/Math", name := "min", desc := "(JJ)J" } : Jvm.MethodName) jdk_29_method_70_code (4 : Nat) (Option.some Jvm.ClassFile.FieldType.long), Jvm.Cond.code ({ cls := "java/util/Arrays", name := "copyOf", desc := "([BI)[B" } : Jvm.MethodName) jdk_65_method_121_code (3 : Nat) (Option.some (Jvm.ClassFile.FieldType.array Jvm.ClassFile.FieldType.byte)), Jvm.Cond.code ({ cls := "java/lang/Math", name := "min", desc := "(II)I" } : Jvm.MethodName) jdk_29_method_69_code (2 : Nat) (Option.some Jvm.ClassFile.FieldType.int), Jvm.Cond.code ({ cls := "com/example/envelope/envelope/JsonOutput", name := "last", desc := "()B" } : Jvm.MethodName) prog_16_method_15_code (1 : Nat) (Option.some Jvm.ClassFile.FieldType.byte), Jvm.Cond.code ({ cls := "com/example/envelope/envelope/JsonOutput", name := "appendAscii", desc := "(Ljava/lang/String;)V" } : Jvm.MethodName) prog_16_method_10_code (2 : Nat) (Option.none : Option Jvm.ClassFile.FieldType), Jvm.Cond.code ({ cls := "java/lang/String", name := "length", desc := "()I" } : Jvm.MethodName) jdk_42_method_54_code (1 : Nat) (Option.some Jvm.ClassFile.FieldType.int), Jvm.Cond.code ({ cls := "java/lang/String", name := "coder", desc := "()B" } : Jvm.MethodName) jdk_42_method_152_code (1 : Nat) (Option.some Jvm.ClassFile.FieldType.byte), Jvm.Cond.code ({ cls := "com/example/envelope/envelope/JsonOutput", name := "copyAscii", desc := "(Ljava/lang/String;II)V" } : Jvm.MethodName) prog_16_method_19_code (4 : Nat) (Option.none : Option Jvm.ClassFile.FieldType), Jvm.Cond.code ({ cls := "java/lang/String", name := "getBytes", desc := "(II[BI)V" } : Jvm.MethodName) jdk_42_method_62_code (5 : Nat) (Option.none : Option Jvm.ClassFile.FieldType), Jvm.Cond.code ({ cls := "java/lang/String", name := "checkBoundsBeginEnd", desc := "(III)V" } : Jvm.MethodName) jdk_42_method_158_code (3 : Nat) (Option.none : Option Jvm.ClassFile.FieldType), Jvm.Cond.code ({ cls := "jdk/internal/util/Preconditions", name := "checkFromToIndex", desc := "(IIILjava/util/function/BiFunction;)I" } : Jvm.MethodName) jdk_41_method_12_code (4 : Nat) (Option.some Jvm.ClassFile.FieldType.int), Jvm.Cond.code ({ cls := "java/util/Objects", name := "requireNonNull", desc := "(Ljava/lang/Object;)Ljava/lang/Object;" } : Jvm.MethodName) jdk_31_method_10_code (1 : Nat) (Option.some (Jvm.ClassFile.FieldType.object "java/lang/Object")), Jvm.Cond.code ({ cls := "java/lang/String", name := "checkBoundsOffCount", desc := "(III)I" } : Jvm.MethodName) jdk_42_method_157_code (3 : Nat) (Option.some Jvm.ClassFile.FieldType.int), Jvm.Cond.code ({ cls := "jdk/internal/util/Preconditions", name := "checkFromIndexSize", desc := "(IIILjava/util/function/BiFunction;)I" } : Jvm.MethodName) jdk_41_method_13_code (4 : Nat) (Option.some Jvm.ClassFile.FieldType.int), Jvm.Cond.code ({ cls := "java/lang/String", name := "isLatin1", desc := "()Z" } : Jvm.MethodName) jdk_42_method_154_code (1 : Nat) (Option.some Jvm.ClassFile.FieldType.boolean), Jvm.Cond.code ({ cls := "java/lang/StringLatin1", name := "getBytes", desc := "([BII[BI)V" } : Jvm.MethodName) jdk_43_method_12_code (5 : Nat) (Option.none : Option Jvm.ClassFile.FieldType)]
set_option maxRecDepth 65536 in
theorem codes_eq : words1.filter isCode = codes1 := rfl
theorem w_codes : ∀ c ∈ words1.filter isCode, c.before args0 about1 = true := by
  rw [codes_eq]
  intro c hc
  simp only [codes1, List.mem_cons, List.not_mem_nil, or_false] at hc
  rcases hc with rfl | rfl | rfl | rfl | rfl | rfl | rfl | rfl | rfl | rfl | rfl | rfl | rfl | rfl | rfl | rfl | rfl | rfl | rfl | rfl | rfl | rfl | rfl | rfl | rfl | rfl | rfl
  · exact w_c0
  · exact w_c1
  · exact w_c2
  · exact w_c3
  · exact w_c4
  · exact w_c5
  · exact w_c6
  · exact w_c7
  · exact w_c8
  · exact w_c9
  · exact w_c10
  · exact w_c11
  · exact w_c12
  · exact w_c13
  · exact w_c14
  · exact w_c15
  · exact w_c16
  · exact w_c17
  · exact w_c18
  · exact w_c19
  · exact w_c20
  · exact w_c21
  · exact w_c22
  · exact w_c23
  · exact w_c24
  · exact w_c25
  · exact w_c26
set_option maxRecDepth 65536 in
theorem w_t1 : (words1.take 24).all (fun c => isCode c || c.before args0 about1) = true := by decide +kernel
set_option maxRecDepth 65536 in
theorem w_t2 : ((words1.drop 24).take 24).all (fun c => isCode c || c.before args0 about1) = true := by decide +kernel
set_option maxRecDepth 65536 in
theorem w_t3 : (((words1.drop 24).drop 24).take 24).all (fun c => isCode c || c.before args0 about1) = true := by decide +kernel
set_option maxRecDepth 65536 in
theorem w_t4 : ((((words1.drop 24).drop 24).drop 24).take 24).all (fun c => isCode c || c.before args0 about1) = true := by decide +kernel
set_option maxRecDepth 65536 in
theorem w_t5 : (((((words1.drop 24).drop 24).drop 24).drop 24).take 24).all (fun c => isCode c || c.before args0 about1) = true := by decide +kernel
set_option maxRecDepth 65536 in
theorem w_t6 : (((((words1.drop 24).drop 24).drop 24).drop 24).drop 24).all (fun c => isCode c || c.before args0 about1) = true := by decide +kernel
theorem w_tables : (allAtoms (Jvm.Cond.code x code maxLocals ret :: tables_1)).before args0 about1 = true := by
  rw [allAtoms_all]
  show words1.all (fun c => c.before args0 about1) = true
  refine all_split ?_ w_codes
  rw [← List.take_append_drop 24 words1, List.all_append, w_t1, ← List.take_append_drop 24 (words1.drop 24), List.all_append, w_t2, ← List.take_append_drop 24 ((words1.drop 24).drop 24), List.all_append, w_t3, ← List.take_append_drop 24 (((words1.drop 24).drop 24).drop 24), List.all_append, w_t4, ← List.take_append_drop 24 ((((words1.drop 24).drop 24).drop 24).drop 24), List.all_append, w_t5, w_t6]
  rfl
set_option maxRecDepth 65536 in
theorem w_rest : rest_1_c.before args0 about1 = true := by decide +kernel
set_option maxRecDepth 65536 in
theorem w_case : (Jvm.Cond.and given_1 narrow_1).before args0 about1 = true := by decide +kernel
theorem w_applies : (headSpec (Jvm.Cond.code x code maxLocals ret :: tables_1) room_1).applies x e0.platform about1 = true :=
  (Spec.applies_iff w_frames).mpr ⟨w_running, w_runnable, w_alone, w_named, w_hears, w_ripe, w_room, w_tables⟩
theorem atStart : AtStart classFile x code maxLocals ret World_1 tables_1 room_1 Calls_1 rest_1 Pre_1 launch0 p0 e0 about1 theMethod args0 below0 :=
  ⟨lists_1, trivial, launch0.admits_env _ _ _, launch0.least_env, fairChoices_fair.cas, fairChoices_fair.clock, w_frames, w_args, w_heap, w_applies, trivial, w_rest, w_case⟩
end start1
theorem witness_1 : WitnessClaimed_1 := ⟨start1.p0, start1.e0, start1.about1, start1.theMethod, start1.args0, start1.below0, start1.atStart⟩
end Jvm.Pilot.@@N@@
