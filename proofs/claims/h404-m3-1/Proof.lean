import JvmDerived
import JvmDerived.Pilot.@@N@@Statement
import JvmDerived.Pilot.@@N@@Code
set_option linter.unusedVariables false
set_option linter.unusedSimpArgs false
/- laws to paste: Road.backV, Road.eqW, Road.codOf (cut by pick.py; bodies as the Statement names them) -/
namespace Jvm.Pilot.@@N@@
namespace StrChars
open Jvm Sem ClassFile Op Lib Jvm.Stand Jvm.Free.XT Jvm.Free.ALB Jvm.Free.JM Jvm.Free
open Jvm.Lib.Cold (StaticIs)
/-- a char array whose places are chars -/
def Ch (a : Addr) (A : Cell) (U : State) : Prop := Arr .char a A U ∧ Typed .char A
theorem Ch.mv {a : Addr} {A : Cell} {U U' : State} (h : Ch a A U) (hal : U.vm.Alike U'.vm) (hh : U'.heap = U.heap) : Ch a A U' := ⟨h.1.mv hal hh, h.2⟩
theorem Ch.keep {a : Addr} {A : Cell} {U U' : State} (h : Ch a A U) (hal : U.vm.Alike U'.vm) (hk : U'.heap[a]? = some A) : Ch a A U' := ⟨h.1.keep hal hk, h.2⟩
/-- what place i of a char[]'s cell holds -/
def cv (A : Cell) (i : Nat) : Int32 := match A.slots[i]? with | some (.int x) => x | _ => 0
theorem Ch.get {a : Addr} {A : Cell} {U : State} (h : Ch a A U) {i : Nat} (hi : i < A.slots.size) : A.slots[i]? = some (.int (cv A i)) := by
  have e := Array.getElem?_eq_getElem hi
  have f := h.2 i _ e
  unfold cv; rw [e]
  generalize A.slots[i] = v at f
  cases v <;> simp [fits] at f ⊢
/-- the byte that i2b leaves of a char -/
def lo8 (x : Int32) : Int32 := x.toInt8.toInt32
theorem fits_lo8 (y : Int32) : fits .byte (.int (lo8 y)) = true := by
  have h1 := y.toInt8.le_toInt
  have h2 := y.toInt8.toInt_lt
  simp only [lo8, fits, Bool.and_eq_true, decide_eq_true_eq, Int32.le_iff_toInt_le, Int8.toInt_toInt32, show (-128 : Int32).toInt = -128 from by decide, show (127 : Int32).toInt = 127 from by decide]
  omega
/-- A' is A but that each place j of lo .. hi - 1 holds f j -/
def Laid (A A' : Cell) (lo hi : Nat) (f : Nat → Value) : Prop := A'.cls = A.cls ∧ A'.vm = A.vm ∧ A'.slots.size = A.slots.size ∧ ∀ i, A'.slots[i]? = if lo ≤ i ∧ i < hi then some (f i) else A.slots[i]?
theorem Laid.zero (A : Cell) (lo : Nat) (f : Nat → Value) : Laid A A lo (lo + 0) f := ⟨rfl, rfl, rfl, fun i => by rw [if_neg (by omega)]⟩
theorem Laid.step {A Ak : Cell} {lo k : Nat} {f : Nat → Value} {v : Value} (h : Laid A Ak lo k f) (hlo : lo ≤ k) (hk : k < Ak.slots.size) (hv : v = f k) : Laid A (Ak.setSlot k v) lo (k + 1) f := by
  refine ⟨h.1, h.2.1, by simpa [Cell.setSlot] using h.2.2.1, fun i => ?_⟩
  by_cases e : k = i
  · subst e; rw [Cell.slots_setSlot_self v hk, if_pos (by omega), hv]
  · rw [Cell.slots_setSlot_ne v e, h.2.2.2 i]
    by_cases q : lo ≤ i ∧ i < k
    · rw [if_pos q, if_pos (by omega)]
    · rw [if_neg q, if_neg (by omega)]
def U16 : String := "java/lang/StringUTF16"
namespace Cmp5
def yN : MethodName := ⟨"java/lang/StringUTF16", "compress", "([CI[BII)I"⟩
abbrev yB : ByteArray := jdk_52_method_21_code
theorem d0 : decode yB 0 = .ok (.iconst 0, 1) := by decide +kernel
theorem d1 : decode yB 1 = .ok (.istore 5, 2) := by decide +kernel
theorem d3 : decode yB 3 = .ok (.iload 5, 2) := by decide +kernel
theorem d5 : decode yB 5 = .ok (.iload 4, 2) := by decide +kernel
theorem d7 : decode yB 7 = .ok (.if_icmp (.ge) 37, 3) := by decide +kernel
theorem d10 : decode yB 10 = .ok (.aload_n 0, 1) := by decide +kernel
theorem d11 : decode yB 11 = .ok (.iload_n 1, 1) := by decide +kernel
theorem d12 : decode yB 12 = .ok (.caload, 1) := by decide +kernel
theorem d13 : decode yB 13 = .ok (.istore 6, 2) := by decide +kernel
theorem d15 : decode yB 15 = .ok (.iload 6, 2) := by decide +kernel
theorem d17 : decode yB 17 = .ok (.sipush 255, 3) := by decide +kernel
theorem d20 : decode yB 20 = .ok (.if_icmp (.le) 6, 3) := by decide +kernel
theorem d26 : decode yB 26 = .ok (.aload_n 2, 1) := by decide +kernel
theorem d27 : decode yB 27 = .ok (.iload_n 3, 1) := by decide +kernel
theorem d28 : decode yB 28 = .ok (.iload 6, 2) := by decide +kernel
theorem d30 : decode yB 30 = .ok (.i2b, 1) := by decide +kernel
theorem d31 : decode yB 31 = .ok (.bastore, 1) := by decide +kernel
theorem d32 : decode yB 32 = .ok (.iinc 1 1, 3) := by decide +kernel
theorem d35 : decode yB 35 = .ok (.iinc 3 1, 3) := by decide +kernel
theorem d38 : decode yB 38 = .ok (.iinc 5 1, 3) := by decide +kernel
theorem d41 : decode yB 41 = .ok (.goto (-38), 3) := by decide +kernel
theorem d44 : decode yB 44 = .ok (.iload 4, 2) := by decide +kernel
theorem d46 : decode yB 46 = .ok (.ireturn, 1) := by decide +kernel
def site : List Cond := []
def tab : Cond := tabOf yN yB 7 (some .int) site
def P (b : Addr) (A : Cell) (d : Addr) (B : Cell) (o q len : Nat) (args : Array Value) (s : State) : Prop := args = #[.ref b, .int (Int32.ofNat o), .ref d, .int (Int32.ofNat q), .int (Int32.ofNat len)] ∧ Ch b A s ∧ Arr .byte d B s ∧ b ≠ d ∧ o + len ≤ A.slots.size ∧ q + len ≤ B.slots.size ∧ ∀ i, i < len → ¬ 255 < cv A (o + i)
def E (b : Addr) (A : Cell) (d : Addr) (B : Cell) (o q len : Nat) (r : Option Value) (s u : State) : Prop := r = some (.int (Int32.ofNat len)) ∧ ∃ B', Put d B' s u ∧ Laid B B' q (q + len) (fun j => Value.int (lo8 (cv A (o + (j - q)))))
/-- no char of the range above 255: len; the places written hold each char's low byte -/
theorem law (l : Launch) (b : Addr) (A : Cell) (d : Addr) (B : Cell) (o q len : Nat) : Law l yN 5 5 0 0 yB 7 (some .int) site (P b A d B o q len) (E b A d B o q len) (copyLocs d q len) 0 0 := by
  refine Law.of_walk (plainFor_of_name (by decide +kernel)) (by decide +kernel) (by decide +kernel) (by decide) (fun _ _ h => by rw [h.1]; rfl) (fun _ U U' hal hh h => ⟨h.1, h.2.1.mv hal hh, h.2.2.1.mv hal hh, h.2.2.2⟩) (fun r U U' V V' h1 hal h2 h => ⟨h.1, h.2.elim fun B' q => ⟨B', q.1.mv h1 h2, q.2⟩⟩) ?_
  intro p e s m args below meth c s₁ X0 hexec hbytes hml hret hlk hnm hown hh0 W hP
  obtain ⟨rfl, hA, hB, hne, l1, l2, hp⟩ := hP
  have c1 : Steps p.tables e below (s₁.setTop (entryFrame m #[.ref b, .int (Int32.ofNat o), .ref d, .int (Int32.ofNat q), .int (Int32.ofNat len)] 7)) (s₁.setTop (mkF m 0 #[.val (.ref b), .val (.int (Int32.ofNat o)), .val (.ref d), .val (.int (Int32.ofNat q)), .val (.int (Int32.ofNat len)), .unset, .unset] [])) := entry rfl
  have hA0 := hA.1.mv X0.warmed.alike hh0
  have hB0 := hB.mv X0.warmed.alike hh0
  have a31 := hA.1.2.2.2
  have c2 : Steps p.tables e below (s₁.setTop (entryFrame m #[.ref b, .int (Int32.ofNat o), .ref d, .int (Int32.ofNat q), .int (Int32.ofNat len)] 7)) (s₁.setTop (mkF m 3 #[.val (.ref b), .val (.int (Int32.ofNat o)), .val (.ref d), .val (.int (Int32.ofNat q)), .val (.int (Int32.ofNat len)), .val (.int 0), .unset] [])) := c1.trans (by
    refine iconstV X0.here hexec rfl 0 (hb hbytes d0) (by decide) ?_
    refine XS.istore X0.here hexec rfl (hb hbytes d1) rfl rfl ?_
    exact Steps.refl _)
  have loop : ∀ (r i : Nat), i + r = len → ∀ (z : Slot), (z = .unset ∨ ∃ w, z = .val w ∧ w.category = 1) → ∀ (Tl : State) (Bk : Cell), Stand p l e { frames := 0, locals := 0, cells := 0, slots := 0 } s m #[.ref b, .int (Int32.ofNat o), .ref d, .int (Int32.ofNat q), .int (Int32.ofNat len)] below meth c Tl ([] ++ copyLocs d q i) 0 0 → Put d Bk s₁ Tl → Laid B Bk q (q + i) (fun j => Value.int (lo8 (cv A (o + (j - q))))) →
      Steps p.tables e below (s₁.setTop (entryFrame m #[.ref b, .int (Int32.ofNat o), .ref d, .int (Int32.ofNat q), .int (Int32.ofNat len)] 7)) (Tl.setTop (mkF m 3 #[.val (.ref b), .val (.int (Int32.ofNat (o + i))), .val (.ref d), .val (.int (Int32.ofNat (q + i))), .val (.int (Int32.ofNat len)), .val (.int (Int32.ofNat i)), z] [])) → ∃ (T' : State) (B' : Cell) (z' : Slot), Stand p l e { frames := 0, locals := 0, cells := 0, slots := 0 } s m #[.ref b, .int (Int32.ofNat o), .ref d, .int (Int32.ofNat q), .int (Int32.ofNat len)] below meth c T' ([] ++ copyLocs d q len) 0 0 ∧ Put d B' s₁ T' ∧ Laid B B' q (q + len) (fun j => Value.int (lo8 (cv A (o + (j - q))))) ∧
      Steps p.tables e below (s₁.setTop (entryFrame m #[.ref b, .int (Int32.ofNat o), .ref d, .int (Int32.ofNat q), .int (Int32.ofNat len)] 7)) (T'.setTop (mkF m 3 #[.val (.ref b), .val (.int (Int32.ofNat (o + len))), .val (.ref d), .val (.int (Int32.ofNat (q + len))), .val (.int (Int32.ofNat len)), .val (.int (Int32.ofNat len)), z'] [])) := by
    intro r
    induction r with
    | zero =>
      intro i hi z hz Tl Bk Xl pl fl cl
      have hil : i = len := by omega
      rw [hil] at Xl fl cl
      exact ⟨Tl, Bk, z, Xl, pl, fl, cl⟩
    | succ r ih =>
      intro i hi z hz Tl Bk Xl pl fl cl
      have all := X0.warmed.alike.symm.trans Xl.warmed.alike
      have hAl := hA0.keep all (pl.other hne hA0.1)
      have hBk := hB0.like all pl.1 fl.1 fl.2.1 fl.2.2.1
      have hlt : q + i < Bk.slots.size := by rw [fl.2.2.1]; omega
      have c3 : Steps p.tables e below (s₁.setTop (entryFrame m #[.ref b, .int (Int32.ofNat o), .ref d, .int (Int32.ofNat q), .int (Int32.ofNat len)] 7)) (Tl.setTop (mkF m 12 #[.val (.ref b), .val (.int (Int32.ofNat (o + i))), .val (.ref d), .val (.int (Int32.ofNat (q + i))), .val (.int (Int32.ofNat len)), .val (.int (Int32.ofNat i)), z] [.int (Int32.ofNat (o + i)), .ref b])) := cl.trans (by
        refine XS.iload Xl.here hexec rfl (hb hbytes d3) rfl ?_
        refine XS.iload Xl.here hexec rfl (hb hbytes d5) rfl ?_
        refine XS.icmpNo Xl.here hexec rfl (hb hbytes d7) rfl (ii_ge_f (lt32 (by omega) (by omega))) ?_
        refine XS.aloadN Xl.here hexec rfl (hb hbytes d10) rfl rfl ?_
        refine XS.iloadN Xl.here hexec rfl (hb hbytes d11) rfl ?_
        exact Steps.refl _)
      have c4 : Steps p.tables e below (s₁.setTop (entryFrame m #[.ref b, .int (Int32.ofNat o), .ref d, .int (Int32.ofNat q), .int (Int32.ofNat len)] 7)) (Tl.setTop (mkF m 13 #[.val (.ref b), .val (.int (Int32.ofNat (o + i))), .val (.ref d), .val (.int (Int32.ofNat (q + i))), .val (.int (Int32.ofNat len)), .val (.int (Int32.ofNat i)), z] [.int (cv A (o + i))])) := c3.trans (by
        refine Xl.aget hexec hAl rfl (hA.get (i := o + i) (by omega)) rfl rfl (hb hbytes d12) ?_
        exact Steps.refl _)
      have c5 : Steps p.tables e below (s₁.setTop (entryFrame m #[.ref b, .int (Int32.ofNat o), .ref d, .int (Int32.ofNat q), .int (Int32.ofNat len)] 7)) (Tl.setTop (mkF m 15 #[.val (.ref b), .val (.int (Int32.ofNat (o + i))), .val (.ref d), .val (.int (Int32.ofNat (q + i))), .val (.int (Int32.ofNat len)), .val (.int (Int32.ofNat i)), .val (.int (cv A (o + i)))] [])) := c4.trans (by
        refine XS.istoreS Xl.here hexec rfl (hb hbytes d13) rfl rfl hz ?_
        exact Steps.refl _)
      have c6 : Steps p.tables e below (s₁.setTop (entryFrame m #[.ref b, .int (Int32.ofNat o), .ref d, .int (Int32.ofNat q), .int (Int32.ofNat len)] 7)) (Tl.setTop (mkF m 31 #[.val (.ref b), .val (.int (Int32.ofNat (o + i))), .val (.ref d), .val (.int (Int32.ofNat (q + i))), .val (.int (Int32.ofNat len)), .val (.int (Int32.ofNat i)), .val (.int (cv A (o + i)))] [.int (lo8 (cv A (o + i))), .int (Int32.ofNat (q + i)), .ref d])) := c5.trans (by
        refine XS.iload Xl.here hexec rfl (hb hbytes d15) rfl ?_
        refine sipushV Xl.here hexec rfl 255 (hb hbytes d17) (by decide) ?_
        refine XS.icmpYes Xl.here hexec rfl (pc0 := 20) rfl (hb hbytes d20) rfl (ii_le_t (hp i (by omega))) (by decide) rfl ?_
        refine XS.aloadN Xl.here hexec rfl (hb hbytes d26) rfl rfl ?_
        refine XS.iloadN Xl.here hexec rfl (hb hbytes d27) rfl ?_
        refine XS.iload Xl.here hexec rfl (hb hbytes d28) rfl ?_
        refine i2b Xl.here hexec rfl (hb hbytes d30) rfl ?_
        exact Steps.refl _)
      obtain ⟨T7, X7, p7, st7⟩ := Xl.aput hexec hBk rfl hlt rfl (fits_lo8 (cv A (o + i))) (g := (mkF m 31 #[.val (.ref b), .val (.int (Int32.ofNat (o + i))), .val (.ref d), .val (.int (Int32.ofNat (q + i))), .val (.int (Int32.ofNat len)), .val (.int (Int32.ofNat i)), .val (.int (cv A (o + i)))] [.int (lo8 (cv A (o + i))), .int (Int32.ofNat (q + i)), .ref d])) rfl (rest := []) rfl (hb hbytes d31)
      have c8 : Steps p.tables e below (s₁.setTop (entryFrame m #[.ref b, .int (Int32.ofNat o), .ref d, .int (Int32.ofNat q), .int (Int32.ofNat len)] 7)) (T7.setTop (mkF m 32 #[.val (.ref b), .val (.int (Int32.ofNat (o + i))), .val (.ref d), .val (.int (Int32.ofNat (q + i))), .val (.int (Int32.ofNat len)), .val (.int (Int32.ofNat i)), .val (.int (cv A (o + i)))] [])) := c6.trans (st7 _ (Steps.refl _))
      have c9 : Steps p.tables e below (s₁.setTop (entryFrame m #[.ref b, .int (Int32.ofNat o), .ref d, .int (Int32.ofNat q), .int (Int32.ofNat len)] 7)) (T7.setTop (mkF m 3 #[.val (.ref b), .val (.int (Int32.ofNat (o + i) + 1)), .val (.ref d), .val (.int (Int32.ofNat (q + i) + 1)), .val (.int (Int32.ofNat len)), .val (.int (Int32.ofNat i + 1)), .val (.int (cv A (o + i)))] [])) := c8.trans (by
        refine iincV X7.here hexec rfl 1 (hb hbytes d32) (by decide) rfl rfl ?_
        refine iincV X7.here hexec rfl 1 (hb hbytes d35) (by decide) rfl rfl ?_
        refine iincV X7.here hexec rfl 1 (hb hbytes d38) (by decide) rfl rfl ?_
        refine XS.goto X7.here hexec rfl (pc0 := 41) rfl (hb hbytes d41) (by decide) rfl ?_
        exact Steps.refl _)
      have c10 : Steps p.tables e below (s₁.setTop (entryFrame m #[.ref b, .int (Int32.ofNat o), .ref d, .int (Int32.ofNat q), .int (Int32.ofNat len)] 7)) (T7.setTop (mkF m 3 #[.val (.ref b), .val (.int (Int32.ofNat (o + (i + 1)))), .val (.ref d), .val (.int (Int32.ofNat (q + (i + 1)))), .val (.int (Int32.ofNat len)), .val (.int (Int32.ofNat (i + 1))), .val (.int (cv A (o + i)))] [])) := by
        have := c9
        rw [succ32, succ32, succ32] at this
        exact this
      exact ih (i + 1) (by omega) _ (Or.inr ⟨_, rfl, rfl⟩) T7 _ (by rw [copyLocs_step, ← List.append_assoc]; exact X7) (pl.trans p7) (fl.step (by omega) hlt (by simp)) c10
  obtain ⟨T9, B9, z9, X9, p9, f9, g9⟩ := loop len 0 (by omega) .unset (Or.inl rfl) s₁ B (by simpa [copyLocs] using X0) ⟨hB0.1, fun _ _ => rfl, rfl⟩ (Laid.zero _ _ _) c2
  have c11 : Steps p.tables e below (s₁.setTop (entryFrame m #[.ref b, .int (Int32.ofNat o), .ref d, .int (Int32.ofNat q), .int (Int32.ofNat len)] 7)) (T9.setTop (mkF m 46 #[.val (.ref b), .val (.int (Int32.ofNat (o + len))), .val (.ref d), .val (.int (Int32.ofNat (q + len))), .val (.int (Int32.ofNat len)), .val (.int (Int32.ofNat len)), z9] [.int (Int32.ofNat len)])) := g9.trans (by
    refine XS.iload X9.here hexec rfl (hb hbytes d3) rfl ?_
    refine XS.iload X9.here hexec rfl (hb hbytes d5) rfl ?_
    refine XS.icmpYes X9.here hexec rfl (pc0 := 7) rfl (hb hbytes d7) rfl (ii_ge_t (nlt32 (by omega) (Nat.le_refl _))) (by decide) rfl ?_
    refine XS.iload X9.here hexec rfl (hb hbytes d44) rfl ?_
    exact Steps.refl _)
  exact ⟨T9, some (.int (Int32.ofNat len)), _, _, _, X9, by simp, rfl, rfl, (fun h => by cases h), ⟨rfl, B9, p9.from hh0, f9⟩, fun fs hl => c11.trans (X9.ireturnOut hexec hret rfl (Or.inl rfl) (hb hbytes d46) hl)⟩
end Cmp5
namespace Cmp3
def yN : MethodName := ⟨"java/lang/StringUTF16", "compress", "([CII)[B"⟩
abbrev yB : ByteArray := jdk_52_method_16_code
theorem d0 : decode yB 0 = .ok (.iload_n 2, 1) := by decide +kernel
theorem d1 : decode yB 1 = .ok (.newarray .byte, 2) := by decide +kernel
theorem d3 : decode yB 3 = .ok (.astore_n 3, 1) := by decide +kernel
theorem d4 : decode yB 4 = .ok (.aload_n 0, 1) := by decide +kernel
theorem d5 : decode yB 5 = .ok (.iload_n 1, 1) := by decide +kernel
theorem d6 : decode yB 6 = .ok (.aload_n 3, 1) := by decide +kernel
theorem d7 : decode yB 7 = .ok (.iconst 0, 1) := by decide +kernel
theorem d8 : decode yB 8 = .ok (.iload_n 2, 1) := by decide +kernel
theorem d9 : decode yB 9 = .ok (.invokestatic 115, 3) := by decide +kernel
theorem d12 : decode yB 12 = .ok (.istore 4, 2) := by decide +kernel
theorem d14 : decode yB 14 = .ok (.iload 4, 2) := by decide +kernel
theorem d16 : decode yB 16 = .ok (.iload_n 2, 1) := by decide +kernel
theorem d17 : decode yB 17 = .ok (.if_icmp (.eq) 40, 3) := by decide +kernel
theorem d57 : decode yB 57 = .ok (.aload_n 3, 1) := by decide +kernel
theorem d58 : decode yB 58 = .ok (.areturn, 1) := by decide +kernel
def site : List Cond := [.arrayClass .byte, Cmp5.tab] ++ staticW U16 115 Cmp5.yN
def tab : Cond := tabOf yN yB 6 (some (.array .byte)) site
def P (b : Addr) (A : Cell) (o len : Nat) (args : Array Value) (s : State) : Prop := args = #[.ref b, .int (Int32.ofNat o), .int (Int32.ofNat len)] ∧ Ch b A s ∧ o + len ≤ A.slots.size ∧ len ≤ 536870912 ∧ ∀ i, i < len → ¬ 255 < cv A (o + i)
def E (b : Addr) (A : Cell) (o len : Nat) (r : Option Value) (s u : State) : Prop := NewArr .byte "[B" len (fun j => .int (lo8 (cv A (o + j)))) r s u ∧ u.heap.size = s.heap.size + 1
/-- no char of the range above 255: a new byte[] of their low bytes -/
theorem law (l : Launch) (b : Addr) (A : Cell) (o len : Nat) : Law l yN 3 3 1 18 yB 6 (some (.array .byte)) site (P b A o len) (E b A o len) [] 1 len := by
  refine Law.of_walk (plainFor_of_name (by decide +kernel)) (by decide +kernel) (by decide +kernel) (by decide) (fun _ _ h => by rw [h.1]; rfl) (fun _ U U' hal hh h => ⟨h.1, h.2.1.mv hal hh, h.2.2⟩) (fun r U U' V V' h1 hal h2 h => ⟨NewArr.mv r U U' V V' h1 hal h2 h.1, by rw [h1, h2]; exact h.2⟩) ?_
  intro p e s m args below meth c s₁ X0 hexec hbytes hml hret hlk hnm hown hh0 W hP
  obtain ⟨rfl, hA, l1, l2, hp⟩ := hP
  have a31 := hA.1.2.2.2
  have c1 : Steps p.tables e below (s₁.setTop (entryFrame m #[.ref b, .int (Int32.ofNat o), .int (Int32.ofNat len)] 6)) (s₁.setTop (mkF m 0 #[.val (.ref b), .val (.int (Int32.ofNat o)), .val (.int (Int32.ofNat len)), .unset, .unset, .unset] [])) := entry rfl
  have c2 : Steps p.tables e below (s₁.setTop (entryFrame m #[.ref b, .int (Int32.ofNat o), .int (Int32.ofNat len)] 6)) (s₁.setTop (mkF m 1 #[.val (.ref b), .val (.int (Int32.ofNat o)), .val (.int (Int32.ofNat len)), .unset, .unset, .unset] [.int (Int32.ofNat len)])) := c1.trans (by
    refine XS.iloadN X0.here hexec rfl (hb hbytes d0) rfl ?_
    exact Steps.refl _)
  obtain ⟨T3, B3, X3, ba3, bs3, bv3, bh3, bf3, st3⟩ := X0.anew hexec (atype := .byte) (wk W (.arrayClass .byte)) rfl (by show len * 1 ≤ _; omega) (by omega) (g := (mkF m 1 #[.val (.ref b), .val (.int (Int32.ofNat o)), .val (.int (Int32.ofNat len)), .unset, .unset, .unset] [.int (Int32.ofNat len)])) rfl (hb hbytes d1) (rest := []) rfl (Nat.le_refl _) (by show 0 + len ≤ len; omega)
  rw [hh0] at ba3 st3
  have kp3 : XT.Kept s T3 := (XT.Kept.of_eq hh0).push bh3
  have hA3 := hA.keep X3.warmed.alike (kp3 _ _ hA.1.1)
  have hne : b ≠ s.heap.size := hA.1.ne
  have c4 : Steps p.tables e below (s₁.setTop (entryFrame m #[.ref b, .int (Int32.ofNat o), .int (Int32.ofNat len)] 6)) (T3.setTop (mkF m 3 #[.val (.ref b), .val (.int (Int32.ofNat o)), .val (.int (Int32.ofNat len)), .unset, .unset, .unset] [.ref s.heap.size])) := c2.trans (st3 _ (Steps.refl _))
  have c5 : Steps p.tables e below (s₁.setTop (entryFrame m #[.ref b, .int (Int32.ofNat o), .int (Int32.ofNat len)] 6)) (T3.setTop (mkF m 9 #[.val (.ref b), .val (.int (Int32.ofNat o)), .val (.int (Int32.ofNat len)), .val (.ref s.heap.size), .unset, .unset] [.int (Int32.ofNat len), .int 0, .ref s.heap.size, .int (Int32.ofNat o), .ref b])) := c4.trans (by
    refine XS.astoreN X3.here hexec rfl (hb hbytes d3) rfl rfl rfl ?_
    refine XS.aloadN X3.here hexec rfl (hb hbytes d4) rfl rfl ?_
    refine XS.iloadN X3.here hexec rfl (hb hbytes d5) rfl ?_
    refine XS.aloadN X3.here hexec rfl (hb hbytes d6) rfl rfl ?_
    refine iconstV X3.here hexec rfl 0 (hb hbytes d7) (by decide) ?_
    refine XS.iloadN X3.here hexec rfl (hb hbytes d8) rfl ?_
    exact Steps.refl _)
  obtain ⟨v6, T6, X6, E6, g6⟩ := X3.callS hexec (Cmp5.law l b A s.heap.size B3 o 0 len) hown (wks W (staticW U16 115 Cmp5.yN)) (wk W Cmp5.tab) (W := 0) (Nat.le_of_ble_eq_true rfl) (Nat.le_of_ble_eq_true rfl) (Nat.le_refl _) (by show 0 + len + 0 ≤ len; omega) (g := (mkF m 9 #[.val (.ref b), .val (.int (Int32.ofNat o)), .val (.int (Int32.ofNat len)), .val (.ref s.heap.size), .unset, .unset] [.int (Int32.ofNat len), .int (Int32.ofNat 0), .ref s.heap.size, .int (Int32.ofNat o), .ref b])) rfl (by rw [hml]; rfl) c5 (argsL := [.ref b, .int (Int32.ofNat o), .ref s.heap.size, .int (Int32.ofNat 0), .int (Int32.ofNat len)]) (rest := []) rfl rfl (by show 2 * 0 + 0 ≤ _; decide) (hb hbytes d9) (⟨rfl, hA3, ba3, hne, l1, by rw [bs3]; simp, hp⟩)
  obtain ⟨rfl, B6, p6, f6⟩ := E6
  have c7 : Steps p.tables e below (s₁.setTop (entryFrame m #[.ref b, .int (Int32.ofNat o), .int (Int32.ofNat len)] 6)) (T6.setTop (mkF m 12 #[.val (.ref b), .val (.int (Int32.ofNat o)), .val (.int (Int32.ofNat len)), .val (.ref s.heap.size), .unset, .unset] [.int (Int32.ofNat len)])) := g6
  have c8 : Steps p.tables e below (s₁.setTop (entryFrame m #[.ref b, .int (Int32.ofNat o), .int (Int32.ofNat len)] 6)) (T6.setTop (mkF m 58 #[.val (.ref b), .val (.int (Int32.ofNat o)), .val (.int (Int32.ofNat len)), .val (.ref s.heap.size), .val (.int (Int32.ofNat len)), .unset] [.ref s.heap.size])) := c7.trans (by
    refine XS.istore X6.here hexec rfl (hb hbytes d12) rfl rfl ?_
    refine XS.iload X6.here hexec rfl (hb hbytes d14) rfl ?_
    refine XS.iloadN X6.here hexec rfl (hb hbytes d16) rfl ?_
    refine XS.icmpYes X6.here hexec rfl (pc0 := 17) rfl (hb hbytes d17) rfl (ii_eq_t rfl) (by decide) rfl ?_
    refine XS.aloadN X6.here hexec rfl (hb hbytes d57) rfl rfl ?_
    exact Steps.refl _)
  have X8 := X6.wide (L' := []) (cells' := 1) (slots' := len) (fun x hx hlt => by
    simp only [List.nil_append, copyLocs, List.mem_map, List.mem_range] at hx
    obtain ⟨i, -, rfl⟩ := hx
    exact absurd hlt (Nat.lt_irrefl _)) (Nat.le_refl _) (by omega)
  exact ⟨T6, some (.ref s.heap.size), _, _, _, X8, rfl, rfl, rfl, (fun h => by cases h), ⟨⟨rfl, B6, ba3.like (X3.warmed.alike.symm.trans X6.warmed.alike) p6.1 f6.1 f6.2.1 f6.2.2.1, f6.2.1.trans bv3, by rw [X6.warmed.alike.findClass, f6.1]; exact bf3, by rw [f6.2.2.1, bs3]; simp, fun j hj => by rw [f6.2.2.2 j, if_pos (by omega)]; rfl, kp3.put p6 (Nat.le_refl _)⟩, by rw [p6.2.2, bh3, hh0]; simp⟩, fun fs hl => c8.trans (X8.areturnOut hexec rfl hret rfl (hb hbytes d58) hl)⟩
end Cmp3
namespace CodL
def yN : MethodName := ⟨"java/lang/StringUTF16", "coderFromArrayLen", "([BI)B"⟩
abbrev yB : ByteArray := jdk_52_method_15_code
theorem d0 : decode yB 0 = .ok (.iload_n 1, 1) := by decide +kernel
theorem d1 : decode yB 1 = .ok (.aload_n 0, 1) := by decide +kernel
theorem d2 : decode yB 2 = .ok (.arraylength, 1) := by decide +kernel
theorem d3 : decode yB 3 = .ok (.isub, 1) := by decide +kernel
theorem d4 : decode yB 4 = .ok (.bipush 31, 2) := by decide +kernel
theorem d6 : decode yB 6 = .ok (.iushr, 1) := by decide +kernel
theorem d7 : decode yB 7 = .ok (.i2b, 1) := by decide +kernel
theorem d8 : decode yB 8 = .ok (.ireturn, 1) := by decide +kernel
def site : List Cond := []
def tab : Cond := tabOf yN yB 2 (some .byte) site
def P (d : Addr) (B : Cell) (args : Array Value) (s : State) : Prop := args = #[.ref d, .int (Int32.ofNat B.slots.size)] ∧ Arr .byte d B s
def E (r : Option Value) (s u : State) : Prop := XT.PureE (some (.int 0)) r s u
/-- an array as long as the number of chars: LATIN1 -/
theorem law (l : Launch) (d : Addr) (B : Cell) : Law l yN 2 2 0 0 yB 2 (some .byte) site (P d B) E [] 0 0 := by
  refine Law.of_walk (plainFor_of_name (by decide +kernel)) (by decide +kernel) (by decide +kernel) (by decide) (fun _ _ h => by rw [h.1]; rfl) (fun _ U U' hal hh h => ⟨h.1, h.2.mv hal hh⟩) (fun r U U' V V' h1 hal h2 h => XT.PureE.mv r U U' V V' h1 hal h2 h) ?_
  intro p e s m args below meth c s₁ X0 hexec hbytes hml hret hlk hnm hown hh0 W hP
  obtain ⟨rfl, hB⟩ := hP
  have hB0 := hB.mv X0.warmed.alike hh0
  have c1 : Steps p.tables e below (s₁.setTop (entryFrame m #[.ref d, .int (Int32.ofNat B.slots.size)] 2)) (s₁.setTop (mkF m 0 #[.val (.ref d), .val (.int (Int32.ofNat B.slots.size))] [])) := entry rfl
  have c2 : Steps p.tables e below (s₁.setTop (entryFrame m #[.ref d, .int (Int32.ofNat B.slots.size)] 2)) (s₁.setTop (mkF m 2 #[.val (.ref d), .val (.int (Int32.ofNat B.slots.size))] [.ref d, .int (Int32.ofNat B.slots.size)])) := c1.trans (by
    refine XS.iloadN X0.here hexec rfl (hb hbytes d0) rfl ?_
    refine XS.aloadN X0.here hexec rfl (hb hbytes d1) rfl rfl ?_
    exact Steps.refl _)
  have c3 : Steps p.tables e below (s₁.setTop (entryFrame m #[.ref d, .int (Int32.ofNat B.slots.size)] 2)) (s₁.setTop (mkF m 8 #[.val (.ref d), .val (.int (Int32.ofNat B.slots.size))] [.int (lo8 (ushr (Int32.ofNat B.slots.size - Int32.ofNat B.slots.size) 31))])) := c2.trans (by
    refine X0.alen hexec hB0 rfl rfl (hb hbytes d2) ?_
    refine XS.isub X0.here hexec rfl (hb hbytes d3) rfl ?_
    refine bipushV X0.here hexec rfl 31 (hb hbytes d4) (by decide) ?_
    refine iushr X0.here hexec rfl (hb hbytes d6) rfl ?_
    refine i2b X0.here hexec rfl (hb hbytes d7) rfl ?_
    exact Steps.refl _)
  have e0 : lo8 (ushr (Int32.ofNat B.slots.size - Int32.ofNat B.slots.size) 31) = 0 := by rw [Int32.sub_self]; decide
  rw [e0] at c3
  exact ⟨s₁, some (.int 0), _, _, _, X0, rfl, rfl, rfl, (fun h => by cases h), ⟨rfl, hh0⟩, fun fs hl => c3.trans (X0.ireturnOut hexec hret rfl (Or.inr (Or.inr (Or.inl rfl))) (hb hbytes d8) hl)⟩
end CodL
/-- the String at a is Latin-1 over a new byte[] (the heap's one new cell): the low bytes of the len chars of A from o on; every cell but a is kept -/
def Got (a : Addr) (D : Cell) (fV fC : Field) (A : Cell) (o len : Nat) (r : Option Value) (s u : State) : Prop := r = none ∧ ∃ D' V : Cell, Blank "java/lang/String" a D' u ∧ Same D D' [fV.slot, fC.slot] ∧ D'.slots[fV.slot]? = some (.ref s.heap.size) ∧ D'.slots[fC.slot]? = some (.int 0) ∧ Arr .byte s.heap.size V u ∧ V.vm = .none ∧ u.vm.findClass "[B" = some V.cls ∧ V.slots.size = len ∧ (∀ j, j < len → V.slots[j]? = some (.int (lo8 (cv A (o + j))))) ∧ (∀ (y : Addr) (c : Cell), y ≠ a → s.heap[y]? = some c → u.heap[y]? = some c) ∧ u.heap.size = s.heap.size + 1
theorem Got.mv {a : Addr} {D A : Cell} {fV fC : Field} {o len : Nat} : ∀ r (U U' V V' : State), U'.heap = U.heap → V.vm.Alike V'.vm → V'.heap = V.heap → Got a D fV fC A o len r U V → Got a D fV fC A o len r U' V' :=
  fun r U U' V V' h1 hal h2 ⟨e0, D', X, a1, a2, a3, a4, a5, a6, a7, a8, a9, a10, a11⟩ => ⟨e0, D', X, a1.mv hal h2, a2, by rw [h1]; exact a3, a4, by rw [h1]; exact a5.mv hal h2, a6, by rw [hal.findClass]; exact a7, a8, a9, by rw [h1, h2]; exact a10, by rw [h1, h2]; exact a11⟩
namespace New4
def yN : MethodName := ⟨"java/lang/String", "<init>", "([CIILjava/lang/Void;)V"⟩
abbrev yB : ByteArray := jdk_42_method_149_code
theorem d0 : decode yB 0 = .ok (.aload_n 0, 1) := by decide +kernel
theorem d1 : decode yB 1 = .ok (.invokespecial 1, 3) := by decide +kernel
theorem d4 : decode yB 4 = .ok (.iload_n 3, 1) := by decide +kernel
theorem d5 : decode yB 5 = .ok (.ifCond (.ne) 22, 3) := by decide +kernel
theorem d27 : decode yB 27 = .ok (.getstatic 38, 3) := by decide +kernel
theorem d30 : decode yB 30 = .ok (.ifCond (.eq) 28, 3) := by decide +kernel
theorem d33 : decode yB 33 = .ok (.aload_n 1, 1) := by decide +kernel
theorem d34 : decode yB 34 = .ok (.iload_n 2, 1) := by decide +kernel
theorem d35 : decode yB 35 = .ok (.iload_n 3, 1) := by decide +kernel
theorem d36 : decode yB 36 = .ok (.invokestatic 177, 3) := by decide +kernel
theorem d39 : decode yB 39 = .ok (.astore 5, 2) := by decide +kernel
theorem d41 : decode yB 41 = .ok (.aload_n 0, 1) := by decide +kernel
theorem d42 : decode yB 42 = .ok (.aload 5, 2) := by decide +kernel
theorem d44 : decode yB 44 = .ok (.iload_n 3, 1) := by decide +kernel
theorem d45 : decode yB 45 = .ok (.invokestatic 47, 3) := by decide +kernel
theorem d48 : decode yB 48 = .ok (.putfield 15, 3) := by decide +kernel
theorem d51 : decode yB 51 = .ok (.aload_n 0, 1) := by decide +kernel
theorem d52 : decode yB 52 = .ok (.aload 5, 2) := by decide +kernel
theorem d54 : decode yB 54 = .ok (.putfield 9, 3) := by decide +kernel
theorem d57 : decode yB 57 = .ok (.return_, 1) := by decide +kernel
def site : List Cond := [.fieldLink "java/lang/String" 38 "java/lang/String" "COMPACT_STRINGS" "Z", Cmp3.tab, CodL.tab, .laysFinal "java/lang/String" "java/lang/String" "value" "[B", .fieldLink "java/lang/String" 9 "java/lang/String" "value" "[B", .laysFinal "java/lang/String" "java/lang/String" "coder" "B", .fieldLink "java/lang/String" 15 "java/lang/String" "coder" "B"] ++ objW "java/lang/String" 1 ++ staticW "java/lang/String" 177 Cmp3.yN ++ staticW "java/lang/String" 47 CodL.yN
def tab : Cond := tabOf yN yB 6 none site
def P (a : Addr) (D : Cell) (fV fC : Field) (b : Addr) (A : Cell) (z : Int32) (o len : Nat) (args : Array Value) (s : State) : Prop := args = #[.ref a, .ref b, .int (Int32.ofNat o), .int (Int32.ofNat len), .null] ∧ Blank "java/lang/String" a D s ∧ Found "java/lang/String" "value" "[B" fV s ∧ Found "java/lang/String" "coder" "B" fC s ∧ Ch b A s ∧ StaticIs s "java/lang/String" "COMPACT_STRINGS" "Z" (.int z) ∧ ¬ z = 0 ∧ 0 < len ∧ o + len ≤ A.slots.size ∧ len ≤ 536870912 ∧ ∀ i, i < len → ¬ 255 < cv A (o + i)
def E (a : Addr) (D : Cell) (fV fC : Field) (A : Cell) (o len : Nat) (r : Option Value) (s u : State) : Prop := Got a D fV fC A o len r s u
/-- len > 0, no char of the range above 255: a Latin-1 String of their low bytes -/
theorem law (l : Launch) (a : Addr) (D : Cell) (fV fC : Field) (b : Addr) (A : Cell) (z : Int32) (o len : Nat) : Law l yN 5 4 2 35 yB 6 none site (P a D fV fC b A z o len) (E a D fV fC A o len) [⟨a, fC.slot⟩, ⟨a, fV.slot⟩] 1 len := by
  refine Law.of_walk (plainFor_of_name (by decide +kernel)) (by decide +kernel) (by decide +kernel) (by decide) (fun _ _ h => by rw [h.1]; rfl) (fun _ U U' hal hh h => ⟨h.1, h.2.1.mv hal hh, h.2.2.1.al hal, h.2.2.2.1.al hal, h.2.2.2.2.1.mv hal hh, h.2.2.2.2.2.1.there hal hh, h.2.2.2.2.2.2⟩) (fun r U U' V V' h1 hal h2 h => Got.mv r U U' V V' h1 hal h2 h) ?_
  intro p e s m args below meth c s₁ X0 hexec hbytes hml hret hlk hnm hown hh0 W hP
  obtain ⟨rfl, hB, f1, f2, hA, s1, hz, l0, l1, l2, hp⟩ := hP
  have a31 := hA.1.2.2.2
  have c1 : Steps p.tables e below (s₁.setTop (entryFrame m #[.ref a, .ref b, .int (Int32.ofNat o), .int (Int32.ofNat len), .null] 6)) (s₁.setTop (mkF m 0 #[.val (.ref a), .val (.ref b), .val (.int (Int32.ofNat o)), .val (.int (Int32.ofNat len)), .val .null, .unset] [])) := entry rfl
  have c2 : Steps p.tables e below (s₁.setTop (entryFrame m #[.ref a, .ref b, .int (Int32.ofNat o), .int (Int32.ofNat len), .null] 6)) (s₁.setTop (mkF m 1 #[.val (.ref a), .val (.ref b), .val (.int (Int32.ofNat o)), .val (.int (Int32.ofNat len)), .val .null, .unset] [.ref a])) := c1.trans (by
    refine XS.aloadN X0.here hexec rfl (hb hbytes d0) rfl rfl ?_
    exact Steps.refl _)
  obtain ⟨T3, X3, q3, st3⟩ := X0.oinit hexec hown (wks W (objW "java/lang/String" 1)) (g := (mkF m 1 #[.val (.ref a), .val (.ref b), .val (.int (Int32.ofNat o)), .val (.int (Int32.ofNat len)), .val .null, .unset] [.ref a])) rfl (by rw [hml]; rfl) (rest := []) rfl (hb hbytes d1) (W := 0) (by show 2 * 0 + 0 ≤ _; decide) (Nat.le_of_ble_eq_true rfl) (Nat.le_of_ble_eq_true rfl)
  have hh3 := q3.trans hh0
  have c4 : Steps p.tables e below (s₁.setTop (entryFrame m #[.ref a, .ref b, .int (Int32.ofNat o), .int (Int32.ofNat len), .null] 6)) (T3.setTop (mkF m 27 #[.val (.ref a), .val (.ref b), .val (.int (Int32.ofNat o)), .val (.int (Int32.ofNat len)), .val .null, .unset] [])) := (c2.trans (st3 _ (Steps.refl _))).trans (by
    refine XS.iloadN X3.here hexec rfl (hb hbytes d4) rfl ?_
    refine XS.ifYes X3.here hexec rfl (pc0 := 5) rfl (hb hbytes d5) rfl (i0_ne_t (nz32 (by omega) l0)) (by decide) rfl ?_
    exact Steps.refl _)
  obtain ⟨T5, X5, q5, st5⟩ := X3.sget hexec hown (wk W (.fieldLink "java/lang/String" 38 "java/lang/String" "COMPACT_STRINGS" "Z")) s1 (fun _ _ h => by rw [hh3]; exact h) (g := (mkF m 27 #[.val (.ref a), .val (.ref b), .val (.int (Int32.ofNat o)), .val (.int (Int32.ofNat len)), .val .null, .unset] [])) rfl (hb hbytes d27)
  have hh5 := q5.trans hh3
  have c6 : Steps p.tables e below (s₁.setTop (entryFrame m #[.ref a, .ref b, .int (Int32.ofNat o), .int (Int32.ofNat len), .null] 6)) (T5.setTop (mkF m 30 #[.val (.ref a), .val (.ref b), .val (.int (Int32.ofNat o)), .val (.int (Int32.ofNat len)), .val .null, .unset] [.int z])) := c4.trans (st5 _ (Steps.refl _))
  have c7 : Steps p.tables e below (s₁.setTop (entryFrame m #[.ref a, .ref b, .int (Int32.ofNat o), .int (Int32.ofNat len), .null] 6)) (T5.setTop (mkF m 36 #[.val (.ref a), .val (.ref b), .val (.int (Int32.ofNat o)), .val (.int (Int32.ofNat len)), .val .null, .unset] [.int (Int32.ofNat len), .int (Int32.ofNat o), .ref b])) := c6.trans (by
    refine XS.ifNo X5.here hexec rfl (hb hbytes d30) rfl (i0_eq_f hz) ?_
    refine XS.aloadN X5.here hexec rfl (hb hbytes d33) rfl rfl ?_
    refine XS.iloadN X5.here hexec rfl (hb hbytes d34) rfl ?_
    refine XS.iloadN X5.here hexec rfl (hb hbytes d35) rfl ?_
    exact Steps.refl _)
  obtain ⟨v8, T8, X8, E8, g8⟩ := X5.callS hexec (Cmp3.law l b A o len) hown (wks W (staticW "java/lang/String" 177 Cmp3.yN)) (wk W Cmp3.tab) (W := 0) (Nat.le_of_ble_eq_true rfl) (Nat.le_of_ble_eq_true rfl) (Nat.le_refl _) (by show 0 + len ≤ len; omega) (g := (mkF m 36 #[.val (.ref a), .val (.ref b), .val (.int (Int32.ofNat o)), .val (.int (Int32.ofNat len)), .val .null, .unset] [.int (Int32.ofNat len), .int (Int32.ofNat o), .ref b])) rfl (by rw [hml]; rfl) c7 (argsL := [.ref b, .int (Int32.ofNat o), .int (Int32.ofNat len)]) (rest := []) rfl rfl (by show 2 * 0 + 0 ≤ _; decide) (hb hbytes d36) (⟨rfl, hA.mv X5.warmed.alike hh5, l1, l2, hp⟩)
  obtain ⟨e8, z8⟩ := E8
  obtain ⟨rfl, N, n1, n2, n3, n4, n5, n6⟩ := NewArr.mv _ T5 s _ _ hh5.symm (Vm.Alike.refl _) rfl e8
  rw [hh5] at z8
  have hB1 := hB.keep X8.warmed.alike (n6 _ _ hB.1)
  have hne : s.heap.size ≠ a := (Nat.ne_of_lt (Array.getElem?_eq_some_iff.mp hB.1).1).symm
  have c9 : Steps p.tables e below (s₁.setTop (entryFrame m #[.ref a, .ref b, .int (Int32.ofNat o), .int (Int32.ofNat len), .null] 6)) (T8.setTop (mkF m 39 #[.val (.ref a), .val (.ref b), .val (.int (Int32.ofNat o)), .val (.int (Int32.ofNat len)), .val .null, .unset] [.ref s.heap.size])) := g8
  have c10 : Steps p.tables e below (s₁.setTop (entryFrame m #[.ref a, .ref b, .int (Int32.ofNat o), .int (Int32.ofNat len), .null] 6)) (T8.setTop (mkF m 45 #[.val (.ref a), .val (.ref b), .val (.int (Int32.ofNat o)), .val (.int (Int32.ofNat len)), .val .null, .val (.ref s.heap.size)] [.int (Int32.ofNat N.slots.size), .ref s.heap.size, .ref a])) := by
    have hc : Steps p.tables e below (s₁.setTop (entryFrame m #[.ref a, .ref b, .int (Int32.ofNat o), .int (Int32.ofNat len), .null] 6)) (T8.setTop (mkF m 45 #[.val (.ref a), .val (.ref b), .val (.int (Int32.ofNat o)), .val (.int (Int32.ofNat len)), .val .null, .val (.ref s.heap.size)] [.int (Int32.ofNat len), .ref s.heap.size, .ref a])) := c9.trans (by
      refine XS.astore X8.here hexec rfl (hb hbytes d39) rfl rfl rfl ?_
      refine XS.aloadN X8.here hexec rfl (hb hbytes d41) rfl rfl ?_
      refine XS.aload X8.here hexec rfl (hb hbytes d42) rfl rfl ?_
      refine XS.iloadN X8.here hexec rfl (hb hbytes d44) rfl ?_
      exact Steps.refl _)
    rw [n4]; exact hc
  obtain ⟨v11, T11, X11, E11, g11⟩ := X8.callS hexec (CodL.law l s.heap.size N) hown (wks W (staticW "java/lang/String" 47 CodL.yN)) (wk W CodL.tab) (W := 1) (Nat.le_of_ble_eq_true rfl) (Nat.le_of_ble_eq_true rfl) (Nat.le_refl _) (by show 0 + len + 0 ≤ len; omega) (g := (mkF m 45 #[.val (.ref a), .val (.ref b), .val (.int (Int32.ofNat o)), .val (.int (Int32.ofNat len)), .val .null, .val (.ref s.heap.size)] [.int (Int32.ofNat N.slots.size), .ref s.heap.size, .ref a])) rfl (by rw [hml]; rfl) c10 (argsL := [.ref s.heap.size, .int (Int32.ofNat N.slots.size)]) (rest := [.ref a]) rfl rfl (by show 2 * 0 + (1 + 0) ≤ _; decide) (hb hbytes d45) (⟨rfl, n1⟩)
  obtain ⟨rfl, q11⟩ := E11
  have hB11 := hB1.mv (X8.warmed.alike.symm.trans X11.warmed.alike) q11
  have c12 : Steps p.tables e below (s₁.setTop (entryFrame m #[.ref a, .ref b, .int (Int32.ofNat o), .int (Int32.ofNat len), .null] 6)) (T11.setTop (mkF m 48 #[.val (.ref a), .val (.ref b), .val (.int (Int32.ofNat o)), .val (.int (Int32.ofNat len)), .val .null, .val (.ref s.heap.size)] [.int 0, .ref a])) := g11
  obtain ⟨T13, X13, p13, bl13, sl13, st13⟩ := X11.finit hexec hown (wk W (.fieldLink "java/lang/String" 15 "java/lang/String" "coder" "B")) (Or.inr ⟨_, (wk W (.laysFinal "java/lang/String" "java/lang/String" "coder" "B"))⟩) (Or.inl ⟨rfl, hnm⟩) f2 (Or.inl rfl) hB11 (t := .byte) (by decide +kernel) rfl (g := (mkF m 48 #[.val (.ref a), .val (.ref b), .val (.int (Int32.ofNat o)), .val (.int (Int32.ofNat len)), .val .null, .val (.ref s.heap.size)] [.int 0, .ref a])) rfl (rest := []) rfl (hb hbytes d48)
  have c14 : Steps p.tables e below (s₁.setTop (entryFrame m #[.ref a, .ref b, .int (Int32.ofNat o), .int (Int32.ofNat len), .null] 6)) (T13.setTop (mkF m 54 #[.val (.ref a), .val (.ref b), .val (.int (Int32.ofNat o)), .val (.int (Int32.ofNat len)), .val .null, .val (.ref s.heap.size)] [.ref s.heap.size, .ref a])) := (c12.trans (st13 _ (Steps.refl _))).trans (by
    refine XS.aloadN X13.here hexec rfl (hb hbytes d51) rfl rfl ?_
    refine XS.aload X13.here hexec rfl (hb hbytes d52) rfl rfl ?_
    exact Steps.refl _)
  obtain ⟨T15, X15, p15, bl15, sl15, st15⟩ := X13.finit hexec hown (wk W (.fieldLink "java/lang/String" 9 "java/lang/String" "value" "[B")) (Or.inr ⟨_, (wk W (.laysFinal "java/lang/String" "java/lang/String" "value" "[B"))⟩) (Or.inl ⟨rfl, hnm⟩) f1 (Or.inl rfl) bl13 (t := (.array .byte)) (by decide +kernel) rfl (g := (mkF m 54 #[.val (.ref a), .val (.ref b), .val (.int (Int32.ofNat o)), .val (.int (Int32.ofNat len)), .val .null, .val (.ref s.heap.size)] [.ref s.heap.size, .ref a])) rfl (rest := []) rfl (hb hbytes d54)
  have c16 : Steps p.tables e below (s₁.setTop (entryFrame m #[.ref a, .ref b, .int (Int32.ofNat o), .int (Int32.ofNat len), .null] 6)) (T15.setTop (mkF m 57 #[.val (.ref a), .val (.ref b), .val (.int (Int32.ofNat o)), .val (.int (Int32.ofNat len)), .val .null, .val (.ref s.heap.size)] [])) := c14.trans (st15 _ (Steps.refl _))
  have ap := apart (Or.inr ⟨_, (wk W (.laysFinal "java/lang/String" "java/lang/String" "value" "[B"))⟩) (Or.inr ⟨_, (wk W (.laysFinal "java/lang/String" "java/lang/String" "coder" "B"))⟩) f1 f2 (t₁ := .array .byte) (t₂ := .byte) (by decide +kernel) (by decide +kernel) (by decide)
  have al := X8.warmed.alike.symm.trans X15.warmed.alike
  have n7 : T11.heap[s.heap.size]? = some N := by rw [q11]; exact n1.1
  exact ⟨T15, none, _, _, _, X15, by simp, rfl, by omega, (fun _ => rfl), ⟨rfl, _, N, bl15, ((Same.refl D _).set _ (by simp)).set _ (by simp), sl15, (Cell.slots_setSlot_ne _ ap).trans sl13, n1.keep al (p15.other hne (p13.other hne n7)), n2, by rw [al.findClass]; exact n3, n4, n5, fun y c h1 h2 => p15.other h1 (p13.other h1 (by rw [q11]; exact n6 y c h2)), by rw [p15.2.2, p13.2.2, q11]; exact z8⟩, fun fs hl => c16.trans (X15.returnOut hexec hret (hb hbytes d57) hl)⟩
end New4
namespace New1
def yN : MethodName := ⟨"java/lang/String", "<init>", "([C)V"⟩
abbrev yB : ByteArray := jdk_42_method_3_code
theorem d0 : decode yB 0 = .ok (.aload_n 0, 1) := by decide +kernel
theorem d1 : decode yB 1 = .ok (.aload_n 1, 1) := by decide +kernel
theorem d2 : decode yB 2 = .ok (.iconst 0, 1) := by decide +kernel
theorem d3 : decode yB 3 = .ok (.aload_n 1, 1) := by decide +kernel
theorem d4 : decode yB 4 = .ok (.arraylength, 1) := by decide +kernel
theorem d5 : decode yB 5 = .ok (.aconst_null, 1) := by decide +kernel
theorem d6 : decode yB 6 = .ok (.invokespecial 27, 3) := by decide +kernel
theorem d9 : decode yB 9 = .ok (.return_, 1) := by decide +kernel
def site : List Cond := [New4.tab] ++ initW "java/lang/String" 27 New4.yN
def tab : Cond := tabOf yN yB 2 none site
def P (a : Addr) (D : Cell) (fV fC : Field) (b : Addr) (A : Cell) (z : Int32) (args : Array Value) (s : State) : Prop := args = #[.ref a, .ref b] ∧ Blank "java/lang/String" a D s ∧ Found "java/lang/String" "value" "[B" fV s ∧ Found "java/lang/String" "coder" "B" fC s ∧ Ch b A s ∧ StaticIs s "java/lang/String" "COMPACT_STRINGS" "Z" (.int z) ∧ ¬ z = 0 ∧ 0 < A.slots.size ∧ A.slots.size ≤ 536870912 ∧ ∀ i, i < A.slots.size → ¬ 255 < cv A i
def E (a : Addr) (D : Cell) (fV fC : Field) (A : Cell) (r : Option Value) (s u : State) : Prop := Got a D fV fC A 0 A.slots.size r s u
/-- new String(chars), not empty, no char above 255: a Latin-1 String of their low bytes -/
theorem law (l : Launch) (a : Addr) (D : Cell) (fV fC : Field) (b : Addr) (A : Cell) (z : Int32) : Law l yN 2 1 3 52 yB 2 none site (P a D fV fC b A z) (E a D fV fC A) [⟨a, fC.slot⟩, ⟨a, fV.slot⟩] 1 A.slots.size := by
  refine Law.of_walk (plainFor_of_name (by decide +kernel)) (by decide +kernel) (by decide +kernel) (by decide) (fun _ _ h => by rw [h.1]; rfl) (fun _ U U' hal hh h => ⟨h.1, h.2.1.mv hal hh, h.2.2.1.al hal, h.2.2.2.1.al hal, h.2.2.2.2.1.mv hal hh, h.2.2.2.2.2.1.there hal hh, h.2.2.2.2.2.2⟩) (fun r U U' V V' h1 hal h2 h => Got.mv r U U' V V' h1 hal h2 h) ?_
  intro p e s m args below meth c s₁ X0 hexec hbytes hml hret hlk hnm hown hh0 W hP
  obtain ⟨rfl, hB, f1, f2, hA, s1, hz, l0, l2, hp⟩ := hP
  have c1 : Steps p.tables e below (s₁.setTop (entryFrame m #[.ref a, .ref b] 2)) (s₁.setTop (mkF m 0 #[.val (.ref a), .val (.ref b)] [])) := entry rfl
  have c2 : Steps p.tables e below (s₁.setTop (entryFrame m #[.ref a, .ref b] 2)) (s₁.setTop (mkF m 6 #[.val (.ref a), .val (.ref b)] [.null, .int (Int32.ofNat A.slots.size), .int 0, .ref b, .ref a])) := c1.trans (by
    refine XS.aloadN X0.here hexec rfl (hb hbytes d0) rfl rfl ?_
    refine XS.aloadN X0.here hexec rfl (hb hbytes d1) rfl rfl ?_
    refine iconstV X0.here hexec rfl 0 (hb hbytes d2) (by decide) ?_
    refine XS.aloadN X0.here hexec rfl (hb hbytes d3) rfl rfl ?_
    refine X0.alen hexec (hA.1.mv X0.warmed.alike hh0) rfl rfl (hb hbytes d4) ?_
    refine XS.aconstNull X0.here hexec rfl (hb hbytes d5) ?_
    exact Steps.refl _)
  obtain ⟨v3, T3, X3, E3, g3⟩ := X0.callN hexec (New4.law l a D fV fC b A z 0 A.slots.size) rfl hown (wks W (initW "java/lang/String" 27 New4.yN)) (W New4.tab (by simp only [site, List.mem_cons, List.mem_append, true_or, or_true])) (W := 0) (Nat.le_of_ble_eq_true rfl) (Nat.le_of_ble_eq_true rfl) (Nat.le_refl _) (by show 0 + A.slots.size ≤ A.slots.size; omega) (g := (mkF m 6 #[.val (.ref a), .val (.ref b)] [.null, .int (Int32.ofNat A.slots.size), .int (Int32.ofNat 0), .ref b, .ref a])) rfl (by rw [hml]; rfl) c2 (argsL := [.ref b, .int (Int32.ofNat 0), .int (Int32.ofNat A.slots.size), .null]) (rest := []) rfl rfl (by show 2 * 0 + 0 ≤ _; decide) (hb hbytes d6) (⟨rfl, hB.mv X0.warmed.alike hh0, f1.al X0.warmed.alike, f2.al X0.warmed.alike, hA.mv X0.warmed.alike hh0, s1.there X0.warmed.alike hh0, hz, l0, by omega, l2, fun i hi => by rw [Nat.zero_add]; exact hp i hi⟩)
  have e0 := Got.mv _ s₁ s _ _ hh0.symm (Vm.Alike.refl _) rfl E3
  obtain rfl := e0.1
  have c4 : Steps p.tables e below (s₁.setTop (entryFrame m #[.ref a, .ref b] 2)) (T3.setTop (mkF m 9 #[.val (.ref a), .val (.ref b)] [])) := g3
  exact ⟨T3, none, _, _, _, X3, by simp, rfl, by omega, (fun _ => rfl), e0, fun fs hl => c4.trans (X3.returnOut hexec hret (hb hbytes d9) hl)⟩
theorem pays {l : Launch} {R : Room} {p : Program} {e : Env} {below : List Frame} {s : State} {sargs : Array Value} {len W : Nat} (a : Addr) (D : Cell) (fV fC : Field) (b : Addr) (A : Cell) (z : Int32) (htab : tab.before sargs s = true) (hfr : 4 ≤ R.frames) (hlo : W + 65 ≤ R.locals) :
    Back l R p e below s sargs yN len W (fun A₁ a₁ => A₁.cells + 1 ≤ R.cells ∧ A₁.slots + A.slots.size ≤ R.slots ∧ P a D fV fC b A z a₁ A₁.U) (fun A₁ _ v₁ B₁ => E a D fV fC A v₁ A₁.U B₁.U ∧ B₁.locs = A₁.locs ++ [⟨a, fC.slot⟩, ⟨a, fV.slot⟩] ∧ B₁.cells = A₁.cells + 1 ∧ B₁.slots = A₁.slots + A.slots.size) :=
  (law l a D fV fC b A z).pays htab hfr (by omega)
end New1
/-- the byte, read back as charAt reads it, is the char -/
theorem lo8_mask {x : Int32} (h0 : ¬ x < 0) (h1 : ¬ 255 < x) : lo8 x &&& 255 = x := by
  have t : ∀ k : Fin 256, lo8 (Int32.ofNat k.val) &&& 255 = Int32.ofNat k.val := by decide +kernel
  rw [Int32.lt_iff_toInt_lt] at h0 h1
  have e0 : (0 : Int32).toInt = 0 := rfl
  have e1 : (255 : Int32).toInt = 255 := rfl
  obtain ⟨k, hk⟩ : ∃ k : Nat, x.toInt = k := ⟨x.toInt.toNat, by omega⟩
  have hx : x = Int32.ofNat k := Int32.toInt_inj.mp (by rw [hk, Int32.toInt_ofNat_small (by omega)])
  rw [hx]
  exact t ⟨k, by omega⟩
end StrChars
namespace StrChars.Road
open Jvm Sem ClassFile Op Lib Jvm.Stand Jvm.Free Jvm.Free.XT
open Jvm.Lib.Cold (StaticIs)
abbrev ST : String := "java/lang/String"
/-- every table word that New1's law asks, flat -/
abbrev words : List Jvm.Cond := [.code New1.yN New1.yB 2 none, .initialized ST, .methodLink ST 27 New4.yN, .instanceMethod New4.yN,
  .code New4.yN New4.yB 6 none, .fieldLink ST 38 ST "COMPACT_STRINGS" "Z", .laysFinal ST ST "value" "[B", .fieldLink ST 9 ST "value" "[B", .laysFinal ST ST "coder" "B", .fieldLink ST 15 ST "coder" "B",
  .methodLink ST 1 Lib.objectInit, .instanceMethod Lib.objectInit, .code Lib.objectInit ⟨#[0xb1]⟩ 1 none, .methodLink ST 177 Cmp3.yN, .static Cmp3.yN, .methodLink ST 47 CodL.yN, .static CodL.yN,
  .code Cmp3.yN Cmp3.yB 6 (some (.array .byte)), .initialized U16, .arrayClass .byte, .methodLink U16 115 Cmp5.yN, .static Cmp5.yN, .code Cmp5.yN Cmp5.yB 7 (some .int), .code CodL.yN CodL.yB 2 (some .byte)]
theorem tab_of {a : Array Value} {s : State} (h : ∀ w ∈ words, w.before a s = true) : New1.tab.before a s = true := by
  have h5 : Cmp5.tab.before a s = true := unparts (wk h (.code Cmp5.yN Cmp5.yB 7 (some .int))) (wks h (.initialized Cmp5.yN.cls :: Cmp5.site))
  have hc : CodL.tab.before a s = true := unparts (wk h (.code CodL.yN CodL.yB 2 (some .byte))) (wks h (.initialized CodL.yN.cls :: CodL.site))
  have q5 : ∀ w ∈ Cmp5.tab :: words, w.before a s = true := fun w hw => (List.mem_cons.mp hw).elim (fun e => e ▸ h5) (h w)
  have h3 : Cmp3.tab.before a s = true := unparts (wk q5 (.code Cmp3.yN Cmp3.yB 6 (some (.array .byte)))) (wks q5 (.initialized Cmp3.yN.cls :: Cmp3.site))
  have q3 : ∀ w ∈ Cmp3.tab :: CodL.tab :: words, w.before a s = true := fun w hw => (List.mem_cons.mp hw).elim (fun e => e ▸ h3) fun hw => (List.mem_cons.mp hw).elim (fun e => e ▸ hc) (h w)
  have h4 : New4.tab.before a s = true := unparts (wk q3 (.code New4.yN New4.yB 6 none)) (wks q3 (.initialized New4.yN.cls :: New4.site))
  have q4 : ∀ w ∈ New4.tab :: words, w.before a s = true := fun w hw => (List.mem_cons.mp hw).elim (fun e => e ▸ h4) (h w)
  exact unparts (wk q4 (.code New1.yN New1.yB 2 none)) (wks q4 (.initialized New1.yN.cls :: New1.site))
/-- the words ride from the start Z to the walk's own state -/
theorem moved {Z s : State} {a0 args : Array Value} (hZ : Z.Warmed39 s.vm) (hw : ∀ d ∈ words, d.before a0 Z = true) : ∀ d ∈ words, d.before args s = true := fun d hd => by
  have q := hw d hd
  have t : ∀ d ∈ words, d = .arrayClass .byte ∨ (d.onTables && d.keepsFace) = true := by decide +kernel
  rcases t d hd with rfl | t
  · exact RoadKit.mvA hZ q
  · exact RoadKit.mv hZ q t
/-- WHAT COMES BACK, over the tables of the start Z: h the heap at the call, h' behind it -/
def Q (Z : State) (x : Addr) (A : Cell) (h : Heap) (v : Option Value) (h' : Heap) (L : List Loc) : Prop := v = none ∧ (∀ y ∈ L, y.base = x) ∧ RoadKit.Keep h h' [x] ∧ h'.size = h.size + 1 ∧ RoadKit.Exa Z h' x ST ∧ RoadKit.Fld Z h' x ST "value" "[B" (.ref h.size) ∧ RoadKit.Fld Z h' x ST "coder" "B" (.int 0) ∧
  (∃ V : Cell, RoadKit.Arr Z h' h.size V .byte ∧ V.vm = .none ∧ Z.vm.findClass "[B" = some V.cls ∧ V.slots.size = A.slots.size ∧ ∀ j, j < A.slots.size → V.slots[j]? = some (.int (lo8 (cv A j)))) ∧
  ∀ (O n d : String) (w : Value), RoadKit.Fld Z h x O n d w → RoadKit.slotOf Z O n d ≠ RoadKit.slotOf Z ST "value" "[B" → RoadKit.slotOf Z O n d ≠ RoadKit.slotOf Z ST "coder" "B" → RoadKit.Fld Z h' x O n d w
/-- **new String(chars) AT A CALL, IN THE ROAD'S FORM**: for specialBack behind newO: x the fresh String, b the char[] with the cell A -/
theorem back {p : Program} {l : Launch} {e : Env} {R : Room} {s : State} {args : Array Value} {below : List Frame} {len W : Nat} {Z : State} {a0 : Array Value} {h : Heap} (hZ : Z.Warmed39 s.vm) (hw : ∀ d ∈ words, d.before a0 Z = true) {kI : Nat} (wi : (Jvm.Cond.instantiable ST kI).before a0 Z = true)
    {x b : Addr} {A : Cell} {z : Int32} {v0 c0 : Value} (E : RoadKit.Exa Z h x ST) (V : RoadKit.Fld Z h x ST "value" "[B" v0) (C : RoadKit.Fld Z h x ST "coder" "B" c0) (K : RoadKit.Arr Z h b A .char) (hty : Typed .char A) (S : RoadKit.Sta Z h ST "COMPACT_STRINGS" "Z" (.int z)) (hz : ¬ z = 0)
    (l0 : 0 < A.slots.size) (l2 : A.slots.size ≤ 536870912) (hp : ∀ i, i < A.slots.size → ¬ 255 < cv A i) (hfr : 4 ≤ R.frames) (hlo : W + 65 ≤ R.locals) :
    Back l R p e below s args New1.yN len W (fun P a => a = #[.ref x, .ref b] ∧ P.U.heap = h ∧ P.cells + 1 ≤ R.cells ∧ P.slots + A.slots.size ≤ R.slots)
      (fun P _ v B => ∃ L, Q Z x A h v B.U.heap L ∧ B.locs = P.locs ++ L ∧ B.cells = P.cells + 1 ∧ B.slots = P.slots + A.slots.size) := by
  intro m meth c P g ig mk a X hg hsize hdg hW hn hp'
  obtain ⟨rfl, rfl, r1, r2⟩ := hp'
  have al : Z.vm.Alike P.U.vm := hZ.alike.trans X.warmed.alike
  obtain ⟨D, cfV, kV, iV, fV, hD, gV, stV, knV, obV, asV, slV⟩ := id V
  obtain ⟨D', cfC, kC, iC, fC, hD', gC, stC, -, -, asC, slC⟩ := id C
  cases hD.symm.trans hD'
  obtain ⟨D2, kD, e1, e2, e3, e4, e5⟩ := id E
  cases hD.symm.trans e1
  obtain ⟨c2, k2, i1, i2, i3, -⟩ := Cond.instantiable_spec wi
  cases e2.symm.trans i1
  cases e3.symm.trans i2
  obtain ⟨kU, u1, u2⟩ := al.2.2 _ _ e3
  have hB : Blank ST x D P.U := ⟨hD, ⟨knV, fun q hq => by rw [hq] at obV; cases obV⟩, by rw [al.findClass]; exact e2, kU, u1, by rw [u2]; exact i3, by rw [u2]; exact e5 i3⟩
  have F1 : Found ST "value" "[B" fV P.U := ⟨SBG.found_only al ⟨cfV, kV, iV, gV⟩, stV⟩
  have F2 : Found ST "coder" "B" fC P.U := ⟨SBG.found_only al ⟨cfC, kC, iC, gC⟩, stC⟩
  have hA : Ch b A P.U := ⟨⟨K.1, State.isArrayOf_alike al K.2.1, K.2.2, by omega⟩, hty⟩
  have hS : StaticIs P.U ST "COMPACT_STRINGS" "Z" (.int z) := by
    obtain ⟨cfS, iS, kS, fS, st, cS, t1, t2, t3, t4, t5, t6, t7⟩ := S
    exact StaticIs.there (s := { Z with heap := P.U.heap }) ⟨cfS, iS, kS, fS, st, cS, t1, t2, t3, t4, t5, (fun q => by rw [q] at t6; cases t6), t7⟩ al rfl
  obtain ⟨v, B, X', ⟨⟨hv, E', V', q1, q2, q3, q4, q5, q6, q7, q8, q9, q10, q11⟩, hl, hc, hs⟩, st⟩ := New1.pays x D fV fC b A z (tab_of (moved hZ hw)) hfr hlo m meth c P g ig mk _ X hg hsize hdg hW hn ⟨r1, r2, rfl, hB, F1, F2, hA, hS, hz, l0, l2, hp⟩
  have al' : Z.vm.Alike B.U.vm := hZ.alike.trans X'.warmed.alike
  have hsz : E'.slots.size = D.slots.size := by
    obtain ⟨-, -, -, kB, w1, w2, w3⟩ := q1
    obtain ⟨kB', y1, y2⟩ := al'.2.2 _ _ e3
    rw [q2.2.1] at w1
    cases w1.symm.trans y1
    rw [w3, e5 i3, y2]
  refine ⟨v, B, X', ⟨_, ⟨hv, ?_, ⟨by omega, fun y cy hy hn' => q10 y cy (by simpa using hn') hy, fun y cy hy => ?_⟩, q11, ⟨E', _, q1.1, by rw [q2.2.1]; exact e2, by rw [q2.2.1]; exact e3, by rw [q2.1]; exact obV, fun _ => by rw [hsz]; exact e5 i3⟩,
    ⟨E', cfV, kV, iV, fV, q1.1, gV, stV, by rw [q2.1]; exact knV, by rw [q2.1]; exact obV, by rw [q2.2.1]; exact asV, q3⟩, ⟨E', cfC, kC, iC, fC, q1.1, gC, stC, by rw [q2.1]; exact knV, by rw [q2.1]; exact obV, by rw [q2.2.1]; exact asC, q4⟩,
    ⟨V', ⟨q5.1, State.isArrayOf_alike al'.symm q5.2.1, q5.2.2.1⟩, q6, by rw [← al'.findClass]; exact q7, q8, fun j hj => by have := q9 j hj; rwa [Nat.zero_add] at this⟩, fun O n d w F n1 n2 => ?_⟩, hl, hc, hs⟩, st⟩
  · intro y hy
    simp only [List.mem_cons, List.not_mem_nil, or_false] at hy
    rcases hy with rfl | rfl <;> rfl
  · by_cases q : y = x
    · subst q
      cases hD.symm.trans hy
      exact ⟨E', q1.1, q2.2.1, q2.1, hsz⟩
    · exact ⟨cy, q10 y cy q hy, rfl, rfl, rfl⟩
  · obtain ⟨D3, cf, k, i, f, g1, g2, g3, g4, g5, g6, g7⟩ := F
    cases hD.symm.trans g1
    simp only [RoadKit.slotOf, g2, gV, gC, Option.map_some, Option.getD_some] at n1 n2
    exact ⟨E', cf, k, i, f, q1.1, g2, g3, by rw [q2.1]; exact g4, by rw [q2.1]; exact g5, by rw [q2.2.1]; exact g6, by rw [q2.2.2 f.slot (by simp [n1, n2])]; exact g7⟩
end StrChars.Road
namespace StrChars.Road
open Jvm Sem ClassFile Op Lib Jvm.Stand Jvm.Free Jvm.Free.XT
/-- WHAT COMES BACK, the byte[] as a list of values -/
def QA (Z : State) (x : Addr) (zn : Int32) (cs : List Int32) (h : Heap) (v : Option Value) (h' : Heap) (L : List Loc) : Prop := v = none ∧ (∀ y ∈ L, y.base = x) ∧ RoadKit.Keep h h' [x] ∧ h'.size = h.size + 1 ∧ RoadKit.Exa Z h' x ST ∧ RoadKit.Fld Z h' x ST "value" "[B" (.ref h.size) ∧ RoadKit.Fld Z h' x ST "coder" "B" (.int 0) ∧
  (∃ kb, Z.vm.findClass "[B" = some kb ∧ RoadKit.Arv Z h' h.size kb .byte zn (cs.map fun c => .int (lo8 c)) (.int 0)) ∧
  ∀ (O n d : String) (w : Value), RoadKit.Fld Z h x O n d w → RoadKit.slotOf Z O n d ≠ RoadKit.slotOf Z ST "value" "[B" → RoadKit.slotOf Z O n d ≠ RoadKit.slotOf Z ST "coder" "B" → RoadKit.Fld Z h' x O n d w
/-- **new String(chars) AT A CALL, THE ARRAYS AS LISTS**: the char[] at b holds cs, not empty, no char above 255 -/
theorem backArv {p : Program} {l : Launch} {e : Env} {R : Room} {s : State} {args : Array Value} {below : List Frame} {len W : Nat} {Z : State} {a0 : Array Value} {h : Heap} (hZ : Z.Warmed39 s.vm) (hw : ∀ d ∈ words, d.before a0 Z = true) {kI : Nat} (wi : (Jvm.Cond.instantiable ST kI).before a0 Z = true)
    {x b : Addr} {k : ClassId} {zn z : Int32} {cs : List Int32} {dv v0 c0 : Value} (E : RoadKit.Exa Z h x ST) (V : RoadKit.Fld Z h x ST "value" "[B" v0) (C : RoadKit.Fld Z h x ST "coder" "B" c0) (K : RoadKit.Arv Z h b k .char zn (cs.map Value.int) dv) (S : RoadKit.Sta Z h ST "COMPACT_STRINGS" "Z" (.int z)) (hz : ¬ z = 0)
    (hlen : zn.toNatClampNeg = cs.length) (h0 : 0 < cs.length) (hbig : cs.length ≤ 536870912) (hall : ∀ c ∈ cs, ¬ 255 < c) (hfr : 4 ≤ R.frames) (hlo : W + 65 ≤ R.locals) :
    Back l R p e below s args New1.yN len W (fun P a => a = #[.ref x, .ref b] ∧ P.U.heap = h ∧ P.cells + 1 ≤ R.cells ∧ P.slots + cs.length ≤ R.slots)
      (fun P _ v B => ∃ L, QA Z x zn cs h v B.U.heap L ∧ B.locs = P.locs ++ L ∧ B.cells = P.cells + 1 ∧ B.slots = P.slots + cs.length) := by
  obtain ⟨A, K1, K2, K3, K4, K5, K6⟩ := K
  have e : A.slots.size = cs.length := K3.trans hlen
  have hat : ∀ (i : Nat) (hi : i < cs.length), A.slots[i]? = some (.int cs[i]) := fun i hi => by rw [K5 i (by omega)]; simp [List.getD_eq_getElem?_getD, hi]
  have hcv : ∀ (i : Nat) (hi : i < cs.length), cv A i = cs[i] := fun i hi => by unfold cv; rw [hat i hi]
  have hty : Typed .char A := fun i v hv => by
    have hi : i < A.slots.size := (Array.getElem?_eq_some_iff.mp hv).1
    have q := K5 i hi
    rw [hv] at q
    rw [Option.some.inj q]
    exact K6 i hi
  refine Back.mono (back hZ hw wi E V C K1 hty S hz (by omega) (by omega) (fun i hi => by rw [hcv i (by omega)]; exact hall _ (List.getElem_mem _)) hfr hlo) (fun P a hp => ⟨hp.1, hp.2.1, hp.2.2.1, by rw [e]; exact hp.2.2.2⟩) (fun P a v B hp hq => ?_)
  obtain ⟨L, ⟨q1, q2, q3, q4, q5, q6, q7, ⟨V', v1, v2, v3, v4, v5⟩, q9⟩, hl, hc, hs⟩ := hq
  refine ⟨L, ⟨q1, q2, q3, q4, q5, q6, q7, ⟨V'.cls, v3, V', v1, rfl, by rw [v4, e, hlen], K4, fun i hi => ?_, fun i hi => ?_⟩, q9⟩, hl, hc, by rw [hs, e]⟩
  · have hi' : i < cs.length := by omega
    rw [v5 i (by omega), hcv i hi']; simp [List.getD_eq_getElem?_getD, hi']
  · have hi' : i < cs.length := by omega
    simp only [List.getD_eq_getElem?_getD, List.getElem?_map, List.getElem?_eq_getElem hi', Option.map_some, Option.getD_some]
    exact fits_lo8 _
end StrChars.Road
namespace StrChars.Road
open Jvm Sem ClassFile Op Lib Jvm.Stand Jvm.Free Jvm.Free.XT
/-- WHAT COMES BACK, in the writer's own shape -/
def QV (Z : State) (x : Addr) (N : Int32) (bs : List Int32) (h : Heap) (n0 : Nat) (v : Option Value) (h' : Heap) (L : List Loc) : Prop := v = none ∧ RoadKit.Fr n0 L ∧ RoadKit.Keep h h' [x] ∧ RoadKit.Exa Z h' x ST ∧ RoadKit.Fld Z h' x ST "coder" "B" (.int 0) ∧
  ∃ (t : Addr) (kb : ClassId), n0 ≤ t ∧ h.size ≤ t ∧ ¬ t = x ∧ RoadKit.Fld Z h' x ST "value" "[B" (.ref t) ∧ RoadKit.Arv Z h' t kb .byte N (bs.map Value.int) (.int 0)
/-- **new String(chars) AT A CALL, FOR THE WRITER**: a char[] of n known ints, each 0 to 255 -/
theorem backV {p : Program} {l : Launch} {e : Env} {R : Room} {s : State} {args : Array Value} {below : List Frame} {len W : Nat} {Z : State} {a0 : Array Value} {h : Heap} (hZ : Z.Warmed39 s.vm) (hw : ∀ d ∈ words, d.before a0 Z = true) {kI : Nat} (wi : (Jvm.Cond.instantiable ST kI).before a0 Z = true)
    {x b : Addr} {kC : ClassId} {cs bs : List Int32} {d v0 c0 : Value} {z N : Int32} {n n0 : Nat} (hx0 : n0 ≤ x) (hh0 : n0 ≤ h.size) (E : RoadKit.Exa Z h x ST) (V : RoadKit.Fld Z h x ST "value" "[B" v0) (C : RoadKit.Fld Z h x ST "coder" "B" c0) (K : RoadKit.Arv Z h b kC .char N (cs.map Value.int) d) (S : RoadKit.Sta Z h ST "COMPACT_STRINGS" "Z" (.int z)) (hz : ¬ z = 0)
    (hn : cs.length = n) (hN : N = Int32.ofNat n) (l0 : 0 < n) (l2 : n ≤ 4000) (hp : ∀ c ∈ cs, ¬ c < 0 ∧ ¬ (255 : Int32) < c) (hb : bs = cs.map (fun c => c.toInt8.toInt32)) (hfr : 4 ≤ R.frames) (hlo : W + 65 ≤ R.locals) :
    Back l R p e below s args (⟨"java/lang/String", "<init>", "([C)V"⟩ : MethodName) len W (fun P a => a = #[.ref x, .ref b] ∧ P.U.heap = h ∧ P.cells + 1 ≤ R.cells ∧ P.slots + n ≤ R.slots)
      (fun P _ v B => ∃ L, QV Z x N bs h n0 v B.U.heap L ∧ B.locs = P.locs ++ L ∧ B.cells = P.cells + 1 ∧ B.slots = P.slots + n) := by
  subst hn hN hb
  refine Back.mono (backArv hZ hw wi E V C K S hz (n32 (by omega)) l0 (by omega) (fun c hc => (hp c hc).2) hfr hlo) (fun P a hp => hp) (fun P a v B hp hq => ?_)
  obtain ⟨L, ⟨q1, q2, q3, q4, q5, q6, q7, ⟨kb, v1, v2⟩, q9⟩, hl, hc, hs⟩ := hq
  exact ⟨L, ⟨q1, fun y hy => by rw [q2 y hy]; exact hx0, q3, q5, q7, h.size, kb, hh0, Nat.le_refl _, Nat.ne_of_gt E.lt, q6, by rw [List.map_map]; exact v2⟩, hl, hc, hs⟩
end StrChars.Road
namespace StrChars
open Jvm Sem ClassFile Op Lib Jvm.Stand Jvm.Free.XT Jvm.Free.ALB Jvm.Free.JM Jvm.Free
open Jvm.Lib.Cold (StaticIs)
def hi8 (x : Int32) : Int32 := lo8 (x >>> ((8 : Int32) &&& 31))
/-- what StringUTF16.getChar makes of two bytes -/
def pairCh (u v : Int32) : Int32 := (((u &&& 255) <<< ((0 : Int32) &&& 31)) ||| ((v &&& 255) <<< ((8 : Int32) &&& 31))).toUInt32.toUInt16.toUInt32.toInt32
theorem lo8_and (x : Int32) : (lo8 x &&& 255).toBitVec.toNat = x.toBitVec.toNat % 256 := by
  have h : (lo8 x).toBitVec = (x.toBitVec.signExtend 8).signExtend 32 := by rw [lo8, Int8.toBitVec_toInt32, Int32.toBitVec_toInt8]
  rw [Int32.toBitVec_and, BitVec.toNat_and, h]
  have e : ((x.toBitVec.signExtend 8).signExtend 32).toNat % 256 = x.toBitVec.toNat % 256 := by
    rw [BitVec.toNat_signExtend]
    have hlt := x.toBitVec.isLt
    simp only [BitVec.toNat_setWidth, BitVec.toNat_signExtend]
    split <;> split <;> omega
  rw [← e]
  exact Nat.and_two_pow_sub_one_eq_mod _ 8
theorem pair_says {c : Int32} (h0 : ¬ c < 0) (h1 : ¬ 65535 < c) : pairCh (lo8 c) (hi8 c) = c := by
  rw [Int32.lt_iff_toInt_lt] at h0 h1
  have e0 : (0 : Int32).toInt = 0 := rfl
  have e1 : (65535 : Int32).toInt = 65535 := rfl
  have hc : c.toInt = c.toBitVec.toNat := by
    have := c.toBitVec.isLt
    have e : c.toInt = c.toBitVec.toInt := rfl
    rw [e] at h0 h1
    rw [e]
    rw [BitVec.toInt_eq_toNat_cond] at h0 h1 ⊢
    split at h0 <;> split <;> omega
  have hn : c.toBitVec.toNat < 65536 := by omega
  have a1 := lo8_and c
  have a2 : (hi8 c &&& 255).toBitVec.toNat = c.toBitVec.toNat / 256 := by
    rw [hi8, lo8_and]
    have e : ((8 : Int32) &&& 31) = 8 := by decide
    rw [e, Int32.toBitVec_shiftRight]
    have e2 : ((8 : Int32).toBitVec.smod 32) = 8#32 := by decide
    rw [e2, BitVec.sshiftRight_eq', BitVec.toNat_sshiftRight_of_msb_false (by rw [BitVec.msb_eq_false_iff_two_mul_lt]; omega)]
    show c.toBitVec.toNat >>> 8 % 256 = _
    rw [Nat.shiftRight_eq_div_pow]
    omega
  unfold pairCh
  apply Int32.toBitVec_inj.mp
  apply BitVec.eq_of_toNat_eq
  have f0 : ((0 : Int32) &&& 31) = 0 := by decide
  have f8 : ((8 : Int32) &&& 31) = 8 := by decide
  rw [f0, f8]
  have g : (((lo8 c &&& 255) <<< (0 : Int32)) ||| ((hi8 c &&& 255) <<< (8 : Int32))).toBitVec.toNat = c.toBitVec.toNat := by
    rw [Int32.toBitVec_or, Int32.toBitVec_shiftLeft, Int32.toBitVec_shiftLeft]
    have s0 : ((0 : Int32).toBitVec.smod 32) = 0#32 := by decide
    have s8 : ((8 : Int32).toBitVec.smod 32) = 8#32 := by decide
    rw [s0, s8, BitVec.toNat_or]
    simp only [BitVec.shiftLeft_eq', BitVec.toNat_shiftLeft, a1, a2]
    show (c.toBitVec.toNat % 256) <<< 0 % 2 ^ 32 ||| (c.toBitVec.toNat / 256) <<< 8 % 2 ^ 32 = _
    rw [Nat.shiftLeft_zero, Nat.mod_eq_of_lt (show c.toBitVec.toNat % 256 < 2 ^ 32 by omega), Nat.mod_eq_of_lt (show (c.toBitVec.toNat / 256) <<< 8 < 2 ^ 32 by rw [Nat.shiftLeft_eq]; omega), Nat.or_comm, ← Nat.shiftLeft_add_eq_or_of_lt (by omega), Nat.shiftLeft_eq]
    omega
  show BitVec.toNat (((((lo8 c &&& 255) <<< (0 : Int32)) ||| ((hi8 c &&& 255) <<< (8 : Int32))).toBitVec.setWidth 16).setWidth 32) = _
  rw [BitVec.toNat_setWidth, BitVec.toNat_setWidth, g]
  omega
end StrChars
namespace StrChars
open Jvm Sem ClassFile Op Lib Jvm.Stand Jvm.Free.XT Jvm.Free.ALB Jvm.Free.JM Jvm.Free
open Jvm.Lib.Cold (StaticIs)
/-- the array's cell V codes the n chars f 0 .. f (n - 1) by the coder cd, as the JDK does: coder 1 just where some char is above 255 -/
def Cod (cd : Int32) (n : Nat) (f : Nat → Int32) (V : Cell) : Prop := (cd = 0 ∧ V.slots.size = n ∧ ∀ j, j < n → V.slots[j]? = some (.int (lo8 (f j))) ∧ ¬ 255 < f j) ∨ (cd = 1 ∧ V.slots.size = 2 * n ∧ (∀ j, j < n → V.slots[2 * j]? = some (.int (lo8 (f j))) ∧ V.slots[2 * j + 1]? = some (.int (hi8 (f j)))) ∧ ∃ j, j < n ∧ 255 < f j)
/-- **x is a String of the n chars f 0 .. f (n - 1)**, Latin-1 or UTF-16; its array at t has the cell V -/
def Txt (x t : Addr) (V : Cell) (cd : Int32) (n : Nat) (f : Nat → Int32) (U : State) : Prop := Exact "java/lang/String" x U ∧ Has x "java/lang/String" "value" "[B" (.ref t) U ∧ Has x "java/lang/String" "coder" "B" (.int cd) U ∧ XT.Arr .byte t V U ∧ Cod cd n f V ∧ ∀ j, j < n → ¬ f j < 0 ∧ ¬ 65535 < f j
theorem Txt.mv {x t : Addr} {V : Cell} {cd : Int32} {n : Nat} {f : Nat → Int32} {U U' : State} (h : Txt x t V cd n f U) (hal : U.vm.Alike U'.vm) (hh : U'.heap = U.heap) : Txt x t V cd n f U' := ⟨h.1.mv hal hh, h.2.1.mv hal hh, h.2.2.1.mv hal hh, h.2.2.2.1.mv hal hh, h.2.2.2.2⟩
end StrChars
namespace StrChars.Road
open Jvm Sem ClassFile Op Lib Jvm.Stand Jvm.Free Jvm.Free.XT
open Jvm.Lib.Cold (StaticIs)
theorem consq {a : Array Value} {s : State} {c : Jvm.Cond} {L : List Jvm.Cond} (h0 : c.before a s = true) (h : ∀ w ∈ L, w.before a s = true) : ∀ w ∈ c :: L, w.before a s = true := fun w hw => (List.mem_cons.mp hw).elim (fun e => e ▸ h0) (h w)
/-- the bytes of the chars cs, low before high -/
def wideBytes : List Int32 → List Value
  | [] => []
  | c :: cs => .int (lo8 c) :: .int (hi8 c) :: wideBytes cs
theorem wide_lo (d : Value) : ∀ (cs : List Int32) (j : Nat), j < cs.length → (wideBytes cs).getD (2 * j) d = .int (lo8 (cs.getD j 0))
  | [], j, h => absurd h (Nat.not_lt_zero j)
  | c :: cs, 0, _ => rfl
  | c :: cs, j + 1, h => by
    have q := wide_lo d cs j (by simpa using h)
    rw [show 2 * (j + 1) = 2 * j + 1 + 1 from by omega]
    simpa [wideBytes] using q
theorem wide_hi (d : Value) : ∀ (cs : List Int32) (j : Nat), j < cs.length → (wideBytes cs).getD (2 * j + 1) d = .int (hi8 (cs.getD j 0))
  | [], j, h => absurd h (Nat.not_lt_zero j)
  | c :: cs, 0, _ => rfl
  | c :: cs, j + 1, h => by
    have q := wide_hi d cs j (by simpa using h)
    rw [show 2 * (j + 1) + 1 = 2 * j + 1 + 1 + 1 from by omega]
    simpa [wideBytes] using q
theorem low_at (d : Value) (cs : List Int32) (j : Nat) (h : j < cs.length) : (cs.map fun c => Value.int (lo8 c)).getD j d = .int (lo8 (cs.getD j 0)) := by
  simp [List.getD_eq_getElem?_getD, h]
/-- an array of N2 bytes vs codes the chars cs by the coder cd -/
def CodA (cs : List Int32) (cd N2 : Int32) (vs : List Value) : Prop := (cd = 0 ∧ N2 = Int32.ofNat cs.length ∧ vs = (cs.map fun c => Value.int (lo8 c)) ∧ ∀ c ∈ cs, ¬ 255 < c) ∨ (cd = 1 ∧ N2 = Int32.ofNat (2 * cs.length) ∧ vs = wideBytes cs ∧ ∃ c ∈ cs, 255 < c)
theorem CodA.cod {cs : List Int32} {cd N2 : Int32} {vs : List Value} {V : Cell} (h : CodA cs cd N2 vs) (hn : 2 * cs.length < 2 ^ 31) (hs : V.slots.size = N2.toNatClampNeg) (hv : RoadKit.Has V vs (.int 0)) : Cod cd cs.length (fun j => cs.getD j 0) V := by
  rcases h with ⟨rfl, rfl, rfl, h⟩ | ⟨rfl, rfl, rfl, c, hc, hw⟩
  · rw [n32 (by omega)] at hs
    exact Or.inl ⟨rfl, hs, fun j hj => ⟨by rw [hv j (by omega), low_at _ _ _ hj], by
      have e : cs.getD j 0 = cs[j] := by simp [List.getD_eq_getElem?_getD, hj]
      show ¬ 255 < cs.getD j 0
      rw [e]; exact h _ (List.getElem_mem _)⟩⟩
  · rw [n32 (by omega)] at hs
    obtain ⟨j, hj, rfl⟩ := List.getElem_of_mem hc
    exact Or.inr ⟨rfl, hs, fun j hj => ⟨by rw [hv _ (by omega), wide_lo _ _ _ hj], by rw [hv _ (by omega), wide_hi _ _ _ hj]⟩, j, hj, by
      have e : cs.getD j 0 = cs[j] := by simp [List.getD_eq_getElem?_getD, hj]
      show 255 < cs.getD j 0
      rw [e]; exact hw⟩
/-- an object of exactly java/lang/String, its two fields found: as the laws ask it -/
theorem strObj {Z U : State} {a0 : Array Value} {kI : Nat} (wi : (Jvm.Cond.instantiable ST kI).before a0 Z = true) (al : Z.vm.Alike U.vm) {x : Addr} {v0 c0 : Value} (E : RoadKit.Exa Z U.heap x ST) (V : RoadKit.Fld Z U.heap x ST "value" "[B" v0) (C : RoadKit.Fld Z U.heap x ST "coder" "B" c0) :
    ∃ (D : Cell) (fV fC : Field), Blank ST x D U ∧ Found ST "value" "[B" fV U ∧ Found ST "coder" "B" fC U ∧ D.slots[fV.slot]? = some v0 ∧ D.slots[fC.slot]? = some c0 ∧ RoadKit.slotOf Z ST "value" "[B" = fV.slot ∧ RoadKit.slotOf Z ST "coder" "B" = fC.slot := by
  obtain ⟨D, cfV, kV, iV, fV, hD, gV, stV, knV, obV, asV, slV⟩ := V
  obtain ⟨D', cfC, kC, iC, fC, hD', gC, stC, -, -, asC, slC⟩ := C
  cases hD.symm.trans hD'
  obtain ⟨D2, kD, e1, e2, e3, e4, e5⟩ := E
  cases hD.symm.trans e1
  obtain ⟨c2, k2, i1, i2, i3, -⟩ := Cond.instantiable_spec wi
  cases e2.symm.trans i1
  cases e3.symm.trans i2
  obtain ⟨kU, u1, u2⟩ := al.2.2 _ _ e3
  exact ⟨D, fV, fC, ⟨hD, ⟨knV, fun q hq => by rw [hq] at obV; cases obV⟩, by rw [al.findClass]; exact e2, kU, u1, by rw [u2]; exact i3, by rw [u2]; exact e5 i3⟩, ⟨SBG.found_only al ⟨cfV, kV, iV, gV⟩, stV⟩, ⟨SBG.found_only al ⟨cfC, kC, iC, gC⟩, stC⟩, slV, slC, by simp [RoadKit.slotOf, gV], by simp [RoadKit.slotOf, gC]⟩
theorem sta_is {Z U : State} (al : Z.vm.Alike U.vm) {C n d : String} {v : Value} (S : RoadKit.Sta Z U.heap C n d v) : StaticIs U C n d v := by
  obtain ⟨cfS, iS, kS, fS, st, cS, t1, t2, t3, t4, t5, t6, t7⟩ := S
  exact StaticIs.there (s := { Z with heap := U.heap }) ⟨cfS, iS, kS, fS, st, cS, t1, t2, t3, t4, t5, (fun q => by rw [q] at t6; cases t6), t7⟩ al rfl
end StrChars.Road
namespace StrChars
open Jvm Sem ClassFile Op Lib Jvm.Stand Jvm.Free.XT Jvm.Free.ALB Jvm.Free.JM Jvm.Free
open Jvm.Lib.Cold (StaticIs)
/-- what place i of a byte[]'s cell holds -/
def yv (A : Cell) (i : Nat) : Int32 := match A.slots[i]? with | some (.int x) => x | _ => 0
theorem yv_get {a : Addr} {A : Cell} {U : State} (h : XT.Arr .byte a A U) (ht : Typed .byte A) {i : Nat} (hi : i < A.slots.size) : A.slots[i]? = some (.int (yv A i)) := by
  have e := Array.getElem?_eq_getElem hi
  have f := ht i _ e
  unfold yv; rw [e]
  generalize A.slots[i] = v at f
  cases v <;> simp [fits] at f ⊢
/-- the two arrays are equal, place for place -/
def EqC (A B : Cell) : Prop := A.slots.size = B.slots.size ∧ ∀ i, i < A.slots.size → yv A i = yv B i
/-- a boolean that says whether p -/
def Says01 (q : Prop) (r : Option Value) (s u : State) : Prop := ∃ v : Int32, r = some (.int v) ∧ u.heap = s.heap ∧ ((v = 1 ∧ q) ∨ (v = 0 ∧ ¬ q))
theorem Says01.mv {q : Prop} : ∀ r (U U' V V' : State), U'.heap = U.heap → V.vm.Alike V'.vm → V'.heap = V.heap → Says01 q r U V → Says01 q r U' V' :=
  fun r U U' V V' h1 _ h2 ⟨v, a, b, c⟩ => ⟨v, a, by rw [h1, h2]; exact b, c⟩
namespace LEq
def yN : MethodName := ⟨"java/lang/StringLatin1", "equals", "([B[B)Z"⟩
abbrev yB : ByteArray := jdk_43_method_13_code
theorem d0 : decode yB 0 = .ok (.aload_n 0, 1) := by decide +kernel
theorem d1 : decode yB 1 = .ok (.arraylength, 1) := by decide +kernel
theorem d2 : decode yB 2 = .ok (.aload_n 1, 1) := by decide +kernel
theorem d3 : decode yB 3 = .ok (.arraylength, 1) := by decide +kernel
theorem d4 : decode yB 4 = .ok (.if_icmp (.ne) 30, 3) := by decide +kernel
theorem d7 : decode yB 7 = .ok (.iconst 0, 1) := by decide +kernel
theorem d8 : decode yB 8 = .ok (.istore_n 2, 1) := by decide +kernel
theorem d9 : decode yB 9 = .ok (.iload_n 2, 1) := by decide +kernel
theorem d10 : decode yB 10 = .ok (.aload_n 0, 1) := by decide +kernel
theorem d11 : decode yB 11 = .ok (.arraylength, 1) := by decide +kernel
theorem d12 : decode yB 12 = .ok (.if_icmp (.ge) 20, 3) := by decide +kernel
theorem d15 : decode yB 15 = .ok (.aload_n 0, 1) := by decide +kernel
theorem d16 : decode yB 16 = .ok (.iload_n 2, 1) := by decide +kernel
theorem d17 : decode yB 17 = .ok (.baload, 1) := by decide +kernel
theorem d18 : decode yB 18 = .ok (.aload_n 1, 1) := by decide +kernel
theorem d19 : decode yB 19 = .ok (.iload_n 2, 1) := by decide +kernel
theorem d20 : decode yB 20 = .ok (.baload, 1) := by decide +kernel
theorem d21 : decode yB 21 = .ok (.if_icmp (.eq) 5, 3) := by decide +kernel
theorem d24 : decode yB 24 = .ok (.iconst 0, 1) := by decide +kernel
theorem d25 : decode yB 25 = .ok (.ireturn, 1) := by decide +kernel
theorem d26 : decode yB 26 = .ok (.iinc 2 1, 3) := by decide +kernel
theorem d29 : decode yB 29 = .ok (.goto (-20), 3) := by decide +kernel
theorem d32 : decode yB 32 = .ok (.iconst 1, 1) := by decide +kernel
theorem d33 : decode yB 33 = .ok (.ireturn, 1) := by decide +kernel
theorem d34 : decode yB 34 = .ok (.iconst 0, 1) := by decide +kernel
theorem d35 : decode yB 35 = .ok (.ireturn, 1) := by decide +kernel
def site : List Cond := []
def tab : Cond := tabOf yN yB 3 (some .boolean) site
def P (a : Addr) (A : Cell) (b : Addr) (B : Cell) (args : Array Value) (s : State) : Prop := args = #[.ref a, .ref b] ∧ XT.Arr .byte a A s ∧ Typed .byte A ∧ XT.Arr .byte b B s ∧ Typed .byte B
/-- whether two byte[] are equal, place for place -/
theorem law (l : Launch) (a : Addr) (A : Cell) (b : Addr) (B : Cell) : Law l yN 2 2 0 0 yB 3 (some .boolean) site (P a A b B) (Says01 (EqC A B)) [] 0 0 := by
  refine Law.of_walk (plainFor_of_name (by decide +kernel)) (by decide +kernel) (by decide +kernel) (by decide) (fun _ _ h => by rw [h.1]; rfl) (fun _ U U' hal hh h => ⟨h.1, h.2.1.mv hal hh, h.2.2.1, h.2.2.2.1.mv hal hh, h.2.2.2.2⟩) (fun r U U' V V' h1 hal h2 h => Says01.mv r U U' V V' h1 hal h2 h) ?_
  intro p e s m args below meth c s₁ X0 hexec hbytes hml hret hlk hnm hown hh0 W hP
  obtain ⟨rfl, hA, tA, hB, tB⟩ := hP
  have a31 := hA.2.2.2
  have b31 := hB.2.2.2
  have hA0 := hA.mv X0.warmed.alike hh0
  have hB0 := hB.mv X0.warmed.alike hh0
  have c1 : Steps p.tables e below (s₁.setTop (entryFrame m #[.ref a, .ref b] 3)) (s₁.setTop (mkF m 0 #[.val (.ref a), .val (.ref b), .unset] [])) := entry rfl
  have c2 : Steps p.tables e below (s₁.setTop (entryFrame m #[.ref a, .ref b] 3)) (s₁.setTop (mkF m 4 #[.val (.ref a), .val (.ref b), .unset] [.int (Int32.ofNat B.slots.size), .int (Int32.ofNat A.slots.size)])) := c1.trans (by
    refine XS.aloadN X0.here hexec rfl (hb hbytes d0) rfl rfl ?_
    refine X0.alen hexec hA0 rfl rfl (hb hbytes d1) ?_
    refine XS.aloadN X0.here hexec rfl (hb hbytes d2) rfl rfl ?_
    refine X0.alen hexec hB0 rfl rfl (hb hbytes d3) ?_
    exact Steps.refl _)
  by_cases hs : A.slots.size = B.slots.size
  · have c3 : Steps p.tables e below (s₁.setTop (entryFrame m #[.ref a, .ref b] 3)) (s₁.setTop (mkF m 9 #[.val (.ref a), .val (.ref b), .val (.int 0)] [])) := c2.trans (by
      refine XS.icmpNo X0.here hexec rfl (hb hbytes d4) rfl (ii_ne_f (by rw [hs])) ?_
      refine iconstV X0.here hexec rfl 0 (hb hbytes d7) (by decide) ?_
      refine XS.istoreN X0.here hexec rfl (hb hbytes d8) rfl rfl ?_
      exact Steps.refl _)
    have loop : ∀ (r i : Nat), i + r = A.slots.size → (∀ j, j < i → yv A j = yv B j) → Steps p.tables e below (s₁.setTop (entryFrame m #[.ref a, .ref b] 3)) (s₁.setTop (mkF m 9 #[.val (.ref a), .val (.ref b), .val (.int (Int32.ofNat i))] [])) → ∃ (pc : Nat) (Ls : Array Slot) (v : Int32), (pc = 25 ∨ pc = 33) ∧ ((v = 1 ∧ EqC A B) ∨ (v = 0 ∧ ¬ EqC A B)) ∧ Steps p.tables e below (s₁.setTop (entryFrame m #[.ref a, .ref b] 3)) (s₁.setTop (mkF m pc Ls [.int v])) := by
      intro r
      induction r with
      | zero =>
        intro i hi he cl
        exact ⟨33, _, 1, Or.inr rfl, Or.inl ⟨rfl, hs, fun j hj => he j (by omega)⟩, cl.trans (by
          refine XS.iloadN X0.here hexec rfl (hb hbytes d9) rfl ?_
          refine XS.aloadN X0.here hexec rfl (hb hbytes d10) rfl rfl ?_
          refine X0.alen hexec hA0 rfl rfl (hb hbytes d11) ?_
          refine XS.icmpYes X0.here hexec rfl (pc0 := 12) rfl (hb hbytes d12) rfl (ii_ge_t (nlt32 (by omega) (by omega))) (by decide) rfl ?_
          refine iconstV X0.here hexec rfl 1 (hb hbytes d32) (by decide) ?_
          exact Steps.refl _)⟩
      | succ r ih =>
        intro i hi he cl
        have c4 : Steps p.tables e below (s₁.setTop (entryFrame m #[.ref a, .ref b] 3)) (s₁.setTop (mkF m 21 #[.val (.ref a), .val (.ref b), .val (.int (Int32.ofNat i))] [.int (yv B i), .int (yv A i)])) := cl.trans (by
          refine XS.iloadN X0.here hexec rfl (hb hbytes d9) rfl ?_
          refine XS.aloadN X0.here hexec rfl (hb hbytes d10) rfl rfl ?_
          refine X0.alen hexec hA0 rfl rfl (hb hbytes d11) ?_
          refine XS.icmpNo X0.here hexec rfl (hb hbytes d12) rfl (ii_ge_f (lt32 (by omega) (by omega))) ?_
          refine XS.aloadN X0.here hexec rfl (hb hbytes d15) rfl rfl ?_
          refine XS.iloadN X0.here hexec rfl (hb hbytes d16) rfl ?_
          refine X0.aget hexec hA0 rfl (yv_get hA tA (i := i) (by omega)) rfl rfl (hb hbytes d17) ?_
          refine XS.aloadN X0.here hexec rfl (hb hbytes d18) rfl rfl ?_
          refine XS.iloadN X0.here hexec rfl (hb hbytes d19) rfl ?_
          refine X0.aget hexec hB0 rfl (yv_get hB tB (i := i) (by omega)) rfl rfl (hb hbytes d20) ?_
          exact Steps.refl _)
        by_cases hv : yv A i = yv B i
        · have c5 : Steps p.tables e below (s₁.setTop (entryFrame m #[.ref a, .ref b] 3)) (s₁.setTop (mkF m 9 #[.val (.ref a), .val (.ref b), .val (.int (Int32.ofNat i + 1))] [])) := c4.trans (by
            refine XS.icmpYes X0.here hexec rfl (pc0 := 21) rfl (hb hbytes d21) rfl (ii_eq_t hv) (by decide) rfl ?_
            refine iincV X0.here hexec rfl 1 (hb hbytes d26) (by decide) rfl rfl ?_
            refine XS.goto X0.here hexec rfl (pc0 := 29) rfl (hb hbytes d29) (by decide) rfl ?_
            exact Steps.refl _)
          rw [succ32] at c5
          exact ih (i + 1) (by omega) (fun j hj => by
            by_cases e : j = i
            · rw [e]; exact hv
            · exact he j (by omega)) c5
        · exact ⟨25, _, 0, Or.inl rfl, Or.inr ⟨rfl, fun q => hv (q.2 i (by omega))⟩, c4.trans (by
            refine XS.icmpNo X0.here hexec rfl (hb hbytes d21) rfl (ii_eq_f hv) ?_
            refine iconstV X0.here hexec rfl 0 (hb hbytes d24) (by decide) ?_
            exact Steps.refl _)⟩
    obtain ⟨pc, Ls, v, hpc, hv, cz⟩ := loop A.slots.size 0 (by omega) (fun j hj => absurd hj (Nat.not_lt_zero j)) c3
    have nv : narrow .boolean (.int v) = .int v := by rcases hv with ⟨rfl, -⟩ | ⟨rfl, -⟩ <;> rfl
    rcases hpc with rfl | rfl
    · exact ⟨s₁, some (.int v), _, _, _, X0, rfl, rfl, rfl, (fun h => by cases h), ⟨v, rfl, hh0, hv⟩, fun fs hl => cz.trans (X0.ireturnOut hexec hret nv (Or.inr (Or.inl rfl)) (hb hbytes d25) hl)⟩
    · exact ⟨s₁, some (.int v), _, _, _, X0, rfl, rfl, rfl, (fun h => by cases h), ⟨v, rfl, hh0, hv⟩, fun fs hl => cz.trans (X0.ireturnOut hexec hret nv (Or.inr (Or.inl rfl)) (hb hbytes d33) hl)⟩
  · have c3 : Steps p.tables e below (s₁.setTop (entryFrame m #[.ref a, .ref b] 3)) (s₁.setTop (mkF m 35 #[.val (.ref a), .val (.ref b), .unset] [.int 0])) := c2.trans (by
      refine XS.icmpYes X0.here hexec rfl (pc0 := 4) rfl (hb hbytes d4) rfl (ii_ne_t (ne32 a31 b31 hs)) (by decide) rfl ?_
      refine iconstV X0.here hexec rfl 0 (hb hbytes d34) (by decide) ?_
      exact Steps.refl _)
    exact ⟨s₁, some (.int 0), _, _, _, X0, rfl, rfl, rfl, (fun h => by cases h), ⟨0, rfl, hh0, Or.inr ⟨rfl, fun q => hs q.1⟩⟩, fun fs hl => c3.trans (X0.ireturnOut hexec hret rfl (Or.inr (Or.inl rfl)) (hb hbytes d35) hl)⟩
end LEq
theorem Cod.ty {cd : Int32} {n : Nat} {f : Nat → Int32} {V : Cell} (h : Cod cd n f V) : Typed .byte V := fun i v hv => by
  have hi : i < V.slots.size := (Array.getElem?_eq_some_iff.mp hv).1
  rcases h with ⟨-, k1, k2⟩ | ⟨-, k1, k2, -⟩
  · rw [(k2 i (by omega)).1] at hv; cases hv; exact fits_lo8 _
  · rcases Nat.mod_two_eq_zero_or_one i with e | e
    · obtain ⟨j, rfl⟩ : ∃ j, i = 2 * j := ⟨i / 2, by omega⟩
      rw [(k2 j (by omega)).1] at hv; cases hv; exact fits_lo8 _
    · obtain ⟨j, rfl⟩ : ∃ j, i = 2 * j + 1 := ⟨i / 2, by omega⟩
      rw [(k2 j (by omega)).2] at hv; cases hv; exact fits_lo8 _
/-- the same text -/
def SameT (n : Nat) (f : Nat → Int32) (k : Nat) (g : Nat → Int32) : Prop := n = k ∧ ∀ j, j < n → f j = g j
theorem lo8_inj {x y : Int32} (h0 : ¬ x < 0) (h1 : ¬ 255 < x) (k0 : ¬ y < 0) (k1 : ¬ 255 < y) (h : lo8 x = lo8 y) : x = y := by
  rw [← lo8_mask h0 h1, ← lo8_mask k0 k1, h]
/-- arrays coded by one coder are equal just where the texts are -/
theorem Cod.eqv {cd : Int32} {n k : Nat} {f g : Nat → Int32} {V V' : Cell} (h : Cod cd n f V) (h' : Cod cd k g V') (hf : ∀ j, j < n → ¬ f j < 0 ∧ ¬ 65535 < f j) (hg : ∀ j, j < k → ¬ g j < 0 ∧ ¬ 65535 < g j) : EqC V V' ↔ SameT n f k g := by
  have yvv : ∀ {W : Cell} {i : Nat} {x : Int32}, W.slots[i]? = some (.int x) → yv W i = x := fun q => by unfold yv; rw [q]
  rcases h with ⟨rfl, k1, k2⟩ | ⟨rfl, k1, k2, -⟩
  · rcases h' with ⟨-, m1, m2⟩ | ⟨e, -⟩
    · constructor
      · rintro ⟨e1, e2⟩
        refine ⟨by omega, fun j hj => ?_⟩
        have q := e2 j (by omega)
        rw [yvv (k2 j hj).1, yvv (m2 j (by omega)).1] at q
        exact lo8_inj (hf j hj).1 (k2 j hj).2 (hg j (by omega)).1 (m2 j (by omega)).2 q
      · rintro ⟨rfl, e2⟩
        refine ⟨by omega, fun j hj => ?_⟩
        rw [yvv (k2 j (by omega)).1, yvv (m2 j (by omega)).1, e2 j (by omega)]
    · exact absurd e (by decide)
  · rcases h' with ⟨e, -⟩ | ⟨-, m1, m2, -⟩
    · exact absurd e (by decide)
    · constructor
      · rintro ⟨e1, e2⟩
        refine ⟨by omega, fun j hj => ?_⟩
        have q1 := e2 (2 * j) (by omega)
        have q2 := e2 (2 * j + 1) (by omega)
        rw [yvv (k2 j hj).1, yvv (m2 j (by omega)).1] at q1
        rw [yvv (k2 j hj).2, yvv (m2 j (by omega)).2] at q2
        rw [← pair_says (hf j hj).1 (hf j hj).2, ← pair_says (hg j (by omega)).1 (hg j (by omega)).2, q1, q2]
      · rintro ⟨rfl, e2⟩
        refine ⟨by omega, fun i hi => ?_⟩
        rcases Nat.mod_two_eq_zero_or_one i with e | e
        · obtain ⟨j, rfl⟩ : ∃ j, i = 2 * j := ⟨i / 2, by omega⟩
          rw [yvv (k2 j (by omega)).1, yvv (m2 j (by omega)).1, e2 j (by omega)]
        · obtain ⟨j, rfl⟩ : ∃ j, i = 2 * j + 1 := ⟨i / 2, by omega⟩
          rw [yvv (k2 j (by omega)).2, yvv (m2 j (by omega)).2, e2 j (by omega)]
/-- two codings differ: so do the texts -/
theorem Cod.dif {cd cd' : Int32} {n k : Nat} {f g : Nat → Int32} {V V' : Cell} (h : Cod cd n f V) (h' : Cod cd' k g V') (hne : ¬ cd = cd') : ¬ SameT n f k g := by
  rintro ⟨rfl, e⟩
  rcases h with ⟨rfl, -, k2⟩ | ⟨rfl, -, -, j, hj, hw⟩
  · rcases h' with ⟨rfl, -⟩ | ⟨-, -, -, j, hj, hw⟩
    · exact hne rfl
    · exact (k2 j hj).2 (by rw [e j hj]; exact hw)
  · rcases h' with ⟨-, -, m2⟩ | ⟨rfl, -⟩
    · exact (m2 j hj).2 (by rw [← e j hj]; exact hw)
    · exact hne rfl
/-- an object of exactly C is an instance of C -/
theorem cinst {p : Program} {l : Launch} {e : Env} {R : Room} {s : State} {m : MethodId} {args : Array Value} {below : List Frame} {meth : Method} {c : Code} {T : State} {locs : List Loc} {cells slots : Nat} (X : Stand p l e R s m args below meth c T locs cells slots) (hexec : p.tables.exec = Jvm.exec) {own C : String} {index : Nat} (hown : s.vm.findClass own = some m.cls) (hlink : (Cond.classLink own index C).before args s = true) {a : Addr} (hE : Exact C a T)
    {g : JFrame} (hg : g.method = m) {rest : List Value} (hstack : g.stack = .ref a :: rest) (hdg : decode c.code g.pc = .ok (.instanceof index, 3)) :
    ∃ T', Stand p l e R s m args below meth c T' locs cells slots ∧ T'.heap = T.heap ∧ ∀ target, Steps p.tables e below (T'.setTop { g with pc := g.pc + 3, stack := .int 1 :: rest }) target → Steps p.tables e below (T.setTop g) target := by
  obtain ⟨cB, h1, D, h2, h3, h4⟩ := hE
  have h1' : s.vm.findClass C = some cB := by rw [← X.warmed.alike.findClass]; exact h1
  obtain ⟨vm', X', st⟩ := X.instanceofYes hexec hown hlink h2 h4 h1' (by rw [h3]; exact Jvm.Free.SB.assignable_self _ _) hg hstack hdg
  exact ⟨_, X', rfl, st⟩
theorem cself {p : Program} {l : Launch} {e : Env} {R : Room} {s : State} {m : MethodId} {args : Array Value} {below : List Frame} {meth : Method} {c : Code} {T : State} {locs : List Loc} {cells slots : Nat} (X : Stand p l e R s m args below meth c T locs cells slots) (hexec : p.tables.exec = Jvm.exec) {own C : String} {index : Nat} (hown : s.vm.findClass own = some m.cls) (hlink : (Cond.classLink own index C).before args s = true) {a : Addr} (hE : Exact C a T)
    {g : JFrame} (hg : g.method = m) {rest : List Value} (hstack : g.stack = .ref a :: rest) (hdg : decode c.code g.pc = .ok (.checkcast index, 3)) :
    ∃ T', Stand p l e R s m args below meth c T' locs cells slots ∧ T'.heap = T.heap ∧ ∀ target, Steps p.tables e below (T'.setTop { g with pc := g.pc + 3, stack := .ref a :: rest }) target → Steps p.tables e below (T.setTop g) target := by
  obtain ⟨cB, h1, D, h2, h3, h4⟩ := hE
  have h1' : s.vm.findClass C = some cB := by rw [← X.warmed.alike.findClass]; exact h1
  obtain ⟨vm', X', st⟩ := X.checkcastYes hexec hown hlink h2 h4 h1' (by rw [h3]; exact Jvm.Free.SB.assignable_self _ _) hg hstack hdg
  exact ⟨_, X', rfl, fun t h => st t (by rw [← hstack] at h; exact h)⟩
namespace SEq
def yN : MethodName := ⟨"java/lang/String", "equals", "(Ljava/lang/Object;)Z"⟩
abbrev yB : ByteArray := jdk_42_method_66_code
theorem d0 : decode yB 0 = .ok (.aload_n 0, 1) := by decide +kernel
theorem d1 : decode yB 1 = .ok (.aload_n 1, 1) := by decide +kernel
theorem d2 : decode yB 2 = .ok (.if_acmp (.ne) 5, 3) := by decide +kernel
theorem d5 : decode yB 5 = .ok (.iconst 1, 1) := by decide +kernel
theorem d6 : decode yB 6 = .ok (.ireturn, 1) := by decide +kernel
theorem d7 : decode yB 7 = .ok (.aload_n 1, 1) := by decide +kernel
theorem d8 : decode yB 8 = .ok (.instanceof 10, 3) := by decide +kernel
theorem d11 : decode yB 11 = .ok (.ifCond (.eq) 43, 3) := by decide +kernel
theorem d14 : decode yB 14 = .ok (.aload_n 1, 1) := by decide +kernel
theorem d15 : decode yB 15 = .ok (.checkcast 10, 3) := by decide +kernel
theorem d18 : decode yB 18 = .ok (.astore_n 2, 1) := by decide +kernel
theorem d19 : decode yB 19 = .ok (.getstatic 38, 3) := by decide +kernel
theorem d22 : decode yB 22 = .ok (.ifCond (.eq) 14, 3) := by decide +kernel
theorem d25 : decode yB 25 = .ok (.aload_n 0, 1) := by decide +kernel
theorem d26 : decode yB 26 = .ok (.getfield 15, 3) := by decide +kernel
theorem d29 : decode yB 29 = .ok (.aload_n 2, 1) := by decide +kernel
theorem d30 : decode yB 30 = .ok (.getfield 15, 3) := by decide +kernel
theorem d33 : decode yB 33 = .ok (.if_icmp (.ne) 21, 3) := by decide +kernel
theorem d36 : decode yB 36 = .ok (.aload_n 0, 1) := by decide +kernel
theorem d37 : decode yB 37 = .ok (.getfield 9, 3) := by decide +kernel
theorem d40 : decode yB 40 = .ok (.aload_n 2, 1) := by decide +kernel
theorem d41 : decode yB 41 = .ok (.getfield 9, 3) := by decide +kernel
theorem d44 : decode yB 44 = .ok (.invokestatic 541, 3) := by decide +kernel
theorem d47 : decode yB 47 = .ok (.ifCond (.eq) 7, 3) := by decide +kernel
theorem d50 : decode yB 50 = .ok (.iconst 1, 1) := by decide +kernel
theorem d51 : decode yB 51 = .ok (.goto 4, 3) := by decide +kernel
theorem d54 : decode yB 54 = .ok (.iconst 0, 1) := by decide +kernel
theorem d55 : decode yB 55 = .ok (.ireturn, 1) := by decide +kernel
def site : List Cond := [.classLink "java/lang/String" 10 "java/lang/String", .fieldLink "java/lang/String" 38 "java/lang/String" "COMPACT_STRINGS" "Z", .fieldLink "java/lang/String" 15 "java/lang/String" "coder" "B", .fieldLink "java/lang/String" 9 "java/lang/String" "value" "[B", LEq.tab] ++ staticW "java/lang/String" 541 LEq.yN
def tab : Cond := tabOf yN yB 3 (some .boolean) site
def P (x t : Addr) (V : Cell) (cd : Int32) (n : Nat) (f : Nat → Int32) (y t' : Addr) (V' : Cell) (cd' : Int32) (k : Nat) (g : Nat → Int32) (z : Int32) (args : Array Value) (s : State) : Prop := args = #[.ref x, .ref y] ∧ Txt x t V cd n f s ∧ Txt y t' V' cd' k g s ∧ StaticIs s "java/lang/String" "COMPACT_STRINGS" "Z" (.int z) ∧ ¬ z = 0
/-- equals(Object) of two Strings: whether the texts are the same -/
theorem law (l : Launch) (x t : Addr) (V : Cell) (cd : Int32) (n : Nat) (f : Nat → Int32) (y t' : Addr) (V' : Cell) (cd' : Int32) (k : Nat) (g : Nat → Int32) (z : Int32) : Law l yN 2 1 1 14 yB 3 (some .boolean) site (P x t V cd n f y t' V' cd' k g z) (Says01 (SameT n f k g)) [] 0 0 := by
  refine Law.of_walk (plainFor_of_name (by decide +kernel)) (by decide +kernel) (by decide +kernel) (by decide) (fun _ _ h => by rw [h.1]; rfl) (fun _ U U' hal hh h => ⟨h.1, h.2.1.mv hal hh, h.2.2.1.mv hal hh, h.2.2.2.1.there hal hh, h.2.2.2.2⟩) (fun r U U' V V' h1 hal h2 h => Says01.mv r U U' V V' h1 hal h2 h) ?_
  intro p e s m args below meth c s₁ X0 hexec hbytes hml hret hlk hnm hown hh0 W hP
  obtain ⟨rfl, hx, hy, s1, hz⟩ := hP
  have c1 : Steps p.tables e below (s₁.setTop (entryFrame m #[.ref x, .ref y] 3)) (s₁.setTop (mkF m 2 #[.val (.ref x), .val (.ref y), .unset] [.ref y, .ref x])) := Steps.trans (entry rfl) (by
    show Steps p.tables e below (s₁.setTop (mkF m 0 #[.val (.ref x), .val (.ref y), .unset] [])) _
    refine XS.aloadN X0.here hexec rfl (hb hbytes d0) rfl rfl ?_
    refine XS.aloadN X0.here hexec rfl (hb hbytes d1) rfl rfl ?_
    exact Steps.refl _)
  by_cases hxy : x = y
  · have c2 : Steps p.tables e below (s₁.setTop (entryFrame m #[.ref x, .ref y] 3)) (s₁.setTop (mkF m 6 #[.val (.ref x), .val (.ref y), .unset] [.int 1])) := c1.trans (by
      refine acmpNo X0.here hexec rfl (hb hbytes d2) rfl rfl rfl (by simp [acmp, hxy]) ?_
      refine iconstV X0.here hexec rfl 1 (hb hbytes d5) (by decide) ?_
      exact Steps.refl _)
    subst hxy
    have ec : cd = cd' := by
      obtain ⟨D, fd, a1, a2, a3⟩ := hx.2.2.1
      obtain ⟨D', fd', b1, b2, b3⟩ := hy.2.2.1
      cases a1.symm.trans b1
      obtain ⟨q1, q2, q3, q4⟩ := a2.1
      obtain ⟨r1, r2, r3, r4⟩ := b2.1
      cases q4.symm.trans r4
      cases a3.symm.trans b3; rfl
    have et : t = t' := by
      obtain ⟨D, fd, a1, a2, a3⟩ := hx.2.1
      obtain ⟨D', fd', b1, b2, b3⟩ := hy.2.1
      cases a1.symm.trans b1
      obtain ⟨q1, q2, q3, q4⟩ := a2.1
      obtain ⟨r1, r2, r3, r4⟩ := b2.1
      cases q4.symm.trans r4
      cases a3.symm.trans b3; rfl
    subst ec et
    have ev : V = V' := by cases hx.2.2.2.1.1.symm.trans hy.2.2.2.1.1; rfl
    subst ev
    have hs : SameT n f k g := (Cod.eqv hx.2.2.2.2.1 hy.2.2.2.2.1 hx.2.2.2.2.2 hy.2.2.2.2.2).mp ⟨rfl, fun _ _ => rfl⟩
    exact ⟨s₁, some (.int 1), _, _, _, X0, rfl, rfl, rfl, (fun h => by cases h), ⟨1, rfl, hh0, Or.inl ⟨rfl, hs⟩⟩, fun fs hl => c2.trans (X0.ireturnOut hexec hret rfl (Or.inr (Or.inl rfl)) (hb hbytes d6) hl)⟩
  · have c2 : Steps p.tables e below (s₁.setTop (entryFrame m #[.ref x, .ref y] 3)) (s₁.setTop (mkF m 8 #[.val (.ref x), .val (.ref y), .unset] [.ref y])) := c1.trans (by
      refine acmpYes X0.here hexec rfl (pc0 := 2) rfl (hb hbytes d2) rfl rfl rfl (by simp [acmp, hxy]) (by decide) rfl ?_
      refine XS.aloadN X0.here hexec rfl (hb hbytes d7) rfl rfl ?_
      exact Steps.refl _)
    obtain ⟨T3, X3, q3, st3⟩ := cinst X0 hexec hown (wk W (.classLink "java/lang/String" 10 "java/lang/String")) (hy.mv X0.warmed.alike hh0).1 (g := (mkF m 8 #[.val (.ref x), .val (.ref y), .unset] [.ref y])) rfl (rest := []) rfl (hb hbytes d8)
    have hh3 := q3.trans hh0
    have c4 : Steps p.tables e below (s₁.setTop (entryFrame m #[.ref x, .ref y] 3)) (T3.setTop (mkF m 15 #[.val (.ref x), .val (.ref y), .unset] [.ref y])) := (c2.trans (st3 _ (Steps.refl _))).trans (by
      refine XS.ifNo X3.here hexec rfl (hb hbytes d11) rfl (i0_eq_f (by decide)) ?_
      refine XS.aloadN X3.here hexec rfl (hb hbytes d14) rfl rfl ?_
      exact Steps.refl _)
    obtain ⟨T5, X5, q5, st5⟩ := cself X3 hexec hown (wk W (.classLink "java/lang/String" 10 "java/lang/String")) (hy.mv X3.warmed.alike hh3).1 (g := (mkF m 15 #[.val (.ref x), .val (.ref y), .unset] [.ref y])) rfl (rest := []) rfl (hb hbytes d15)
    have hh5 := q5.trans hh3
    have c6 : Steps p.tables e below (s₁.setTop (entryFrame m #[.ref x, .ref y] 3)) (T5.setTop (mkF m 19 #[.val (.ref x), .val (.ref y), .val (.ref y)] [])) := (c4.trans (st5 _ (Steps.refl _))).trans (by
      refine XS.astoreN X5.here hexec rfl (hb hbytes d18) rfl rfl rfl ?_
      exact Steps.refl _)
    obtain ⟨T7, X7, q7, st7⟩ := X5.sget hexec hown (wk W (.fieldLink "java/lang/String" 38 "java/lang/String" "COMPACT_STRINGS" "Z")) s1 (fun _ _ h => by rw [hh5]; exact h) (g := (mkF m 19 #[.val (.ref x), .val (.ref y), .val (.ref y)] [])) rfl (hb hbytes d19)
    have hh7 := q7.trans hh5
    have c8 : Steps p.tables e below (s₁.setTop (entryFrame m #[.ref x, .ref y] 3)) (T7.setTop (mkF m 26 #[.val (.ref x), .val (.ref y), .val (.ref y)] [.ref x])) := (c6.trans (st7 _ (Steps.refl _))).trans (by
      refine XS.ifNo X7.here hexec rfl (hb hbytes d22) rfl (i0_eq_f hz) ?_
      refine XS.aloadN X7.here hexec rfl (hb hbytes d25) rfl rfl ?_
      exact Steps.refl _)
    obtain ⟨T9, X9, q9, st9⟩ := X7.hget hexec hown (wk W (.fieldLink "java/lang/String" 15 "java/lang/String" "coder" "B")) (hx.mv X7.warmed.alike hh7).2.2.1 (g := (mkF m 26 #[.val (.ref x), .val (.ref y), .val (.ref y)] [.ref x])) rfl (rest := []) rfl (hb hbytes d26)
    have hh9 := q9.trans hh7
    have c10 : Steps p.tables e below (s₁.setTop (entryFrame m #[.ref x, .ref y] 3)) (T9.setTop (mkF m 30 #[.val (.ref x), .val (.ref y), .val (.ref y)] [.ref y, .int cd])) := (c8.trans (st9 _ (Steps.refl _))).trans (by
      refine XS.aloadN X9.here hexec rfl (hb hbytes d29) rfl rfl ?_
      exact Steps.refl _)
    obtain ⟨T11, X11, q11, st11⟩ := X9.hget hexec hown (wk W (.fieldLink "java/lang/String" 15 "java/lang/String" "coder" "B")) (hy.mv X9.warmed.alike hh9).2.2.1 (g := (mkF m 30 #[.val (.ref x), .val (.ref y), .val (.ref y)] [.ref y, .int cd])) rfl (rest := [.int cd]) rfl (hb hbytes d30)
    have hh11 := q11.trans hh9
    have c12 : Steps p.tables e below (s₁.setTop (entryFrame m #[.ref x, .ref y] 3)) (T11.setTop (mkF m 33 #[.val (.ref x), .val (.ref y), .val (.ref y)] [.int cd', .int cd])) := c10.trans (st11 _ (Steps.refl _))
    by_cases hcd : cd = cd'
    · subst hcd
      have c13 : Steps p.tables e below (s₁.setTop (entryFrame m #[.ref x, .ref y] 3)) (T11.setTop (mkF m 37 #[.val (.ref x), .val (.ref y), .val (.ref y)] [.ref x])) := c12.trans (by
        refine XS.icmpNo X11.here hexec rfl (hb hbytes d33) rfl (ii_ne_f rfl) ?_
        refine XS.aloadN X11.here hexec rfl (hb hbytes d36) rfl rfl ?_
        exact Steps.refl _)
      obtain ⟨T14, X14, q14, st14⟩ := X11.hget hexec hown (wk W (.fieldLink "java/lang/String" 9 "java/lang/String" "value" "[B")) (hx.mv X11.warmed.alike hh11).2.1 (g := (mkF m 37 #[.val (.ref x), .val (.ref y), .val (.ref y)] [.ref x])) rfl (rest := []) rfl (hb hbytes d37)
      have hh14 := q14.trans hh11
      have c15 : Steps p.tables e below (s₁.setTop (entryFrame m #[.ref x, .ref y] 3)) (T14.setTop (mkF m 41 #[.val (.ref x), .val (.ref y), .val (.ref y)] [.ref y, .ref t])) := (c13.trans (st14 _ (Steps.refl _))).trans (by
        refine XS.aloadN X14.here hexec rfl (hb hbytes d40) rfl rfl ?_
        exact Steps.refl _)
      obtain ⟨T16, X16, q16, st16⟩ := X14.hget hexec hown (wk W (.fieldLink "java/lang/String" 9 "java/lang/String" "value" "[B")) (hy.mv X14.warmed.alike hh14).2.1 (g := (mkF m 41 #[.val (.ref x), .val (.ref y), .val (.ref y)] [.ref y, .ref t])) rfl (rest := [.ref t]) rfl (hb hbytes d41)
      have hh16 := q16.trans hh14
      have c17 : Steps p.tables e below (s₁.setTop (entryFrame m #[.ref x, .ref y] 3)) (T16.setTop (mkF m 44 #[.val (.ref x), .val (.ref y), .val (.ref y)] [.ref t', .ref t])) := c15.trans (st16 _ (Steps.refl _))
      obtain ⟨v18, T18, X18, E18, g18⟩ := X16.callS hexec (LEq.law l t V t' V') hown (wks W (staticW "java/lang/String" 541 LEq.yN)) (wk W LEq.tab) (W := 0) (Nat.le_of_ble_eq_true rfl) (Nat.le_of_ble_eq_true rfl) (Nat.le_refl _) (Nat.le_refl _) (g := (mkF m 44 #[.val (.ref x), .val (.ref y), .val (.ref y)] [.ref t', .ref t])) rfl (by rw [hml]; rfl) c17 (argsL := [.ref t, .ref t']) (rest := []) rfl rfl (by show 2 * 0 + 0 ≤ _; decide) (hb hbytes d44) (⟨rfl, hx.2.2.2.1.mv X16.warmed.alike hh16, hx.2.2.2.2.1.ty, hy.2.2.2.1.mv X16.warmed.alike hh16, hy.2.2.2.2.1.ty⟩)
      obtain ⟨v, rfl, q18, hv⟩ := E18
      have iff := Cod.eqv hx.2.2.2.2.1 hy.2.2.2.2.1 hx.2.2.2.2.2 hy.2.2.2.2.2
      rcases hv with ⟨rfl, he⟩ | ⟨rfl, he⟩
      · have c19 : Steps p.tables e below (s₁.setTop (entryFrame m #[.ref x, .ref y] 3)) (T18.setTop (mkF m 55 #[.val (.ref x), .val (.ref y), .val (.ref y)] [.int 1])) := Steps.trans g18 (by
          refine XS.ifNo X18.here hexec rfl (hb hbytes d47) rfl (i0_eq_f (by decide)) ?_
          refine iconstV X18.here hexec rfl 1 (hb hbytes d50) (by decide) ?_
          refine XS.goto X18.here hexec rfl (pc0 := 51) rfl (hb hbytes d51) (by decide) rfl ?_
          exact Steps.refl _)
        exact ⟨T18, some (.int 1), _, _, _, X18, rfl, rfl, rfl, (fun h => by cases h), ⟨1, rfl, q18.trans hh16, Or.inl ⟨rfl, iff.mp he⟩⟩, fun fs hl => c19.trans (X18.ireturnOut hexec hret rfl (Or.inr (Or.inl rfl)) (hb hbytes d55) hl)⟩
      · have c19 : Steps p.tables e below (s₁.setTop (entryFrame m #[.ref x, .ref y] 3)) (T18.setTop (mkF m 55 #[.val (.ref x), .val (.ref y), .val (.ref y)] [.int 0])) := Steps.trans g18 (by
          refine XS.ifYes X18.here hexec rfl (pc0 := 47) rfl (hb hbytes d47) rfl (i0_eq_t rfl) (by decide) rfl ?_
          refine iconstV X18.here hexec rfl 0 (hb hbytes d54) (by decide) ?_
          exact Steps.refl _)
        exact ⟨T18, some (.int 0), _, _, _, X18, rfl, rfl, rfl, (fun h => by cases h), ⟨0, rfl, q18.trans hh16, Or.inr ⟨rfl, fun q => he (iff.mpr q)⟩⟩, fun fs hl => c19.trans (X18.ireturnOut hexec hret rfl (Or.inr (Or.inl rfl)) (hb hbytes d55) hl)⟩
    · have c13 : Steps p.tables e below (s₁.setTop (entryFrame m #[.ref x, .ref y] 3)) (T11.setTop (mkF m 55 #[.val (.ref x), .val (.ref y), .val (.ref y)] [.int 0])) := c12.trans (by
        refine XS.icmpYes X11.here hexec rfl (pc0 := 33) rfl (hb hbytes d33) rfl (ii_ne_t hcd) (by decide) rfl ?_
        refine iconstV X11.here hexec rfl 0 (hb hbytes d54) (by decide) ?_
        exact Steps.refl _)
      exact ⟨T11, some (.int 0), _, _, _, X11, rfl, rfl, rfl, (fun h => by cases h), ⟨0, rfl, hh11, Or.inr ⟨rfl, Cod.dif hx.2.2.2.2.1 hy.2.2.2.2.1 hcd⟩⟩, fun fs hl => c13.trans (X11.ireturnOut hexec hret rfl (Or.inr (Or.inl rfl)) (hb hbytes d55) hl)⟩
theorem pays {l : Launch} {R : Room} {p : Program} {e : Env} {below : List Frame} {s : State} {sargs : Array Value} {len W : Nat} (x t : Addr) (V : Cell) (cd : Int32) (n : Nat) (f : Nat → Int32) (y t' : Addr) (V' : Cell) (cd' : Int32) (k : Nat) (g : Nat → Int32) (z : Int32) (htab : tab.before sargs s = true) (hfr : 2 ≤ R.frames) (hlo : W + 28 ≤ R.locals) :
    Back l R p e below s sargs yN len W (fun A₁ a₁ => A₁.cells + 0 ≤ R.cells ∧ A₁.slots + 0 ≤ R.slots ∧ P x t V cd n f y t' V' cd' k g z a₁ A₁.U) (fun A₁ _ v₁ B₁ => Says01 (SameT n f k g) v₁ A₁.U B₁.U ∧ B₁.locs = A₁.locs ++ [] ∧ B₁.cells = A₁.cells + 0 ∧ B₁.slots = A₁.slots + 0) :=
  (law l x t V cd n f y t' V' cd' k g z).pays htab hfr (by omega)
end SEq
end StrChars
namespace StrChars.Road
open Jvm Sem ClassFile Op Lib Jvm.Stand Jvm.Free Jvm.Free.XT
open Jvm.Lib.Cold (StaticIs)
/-- the words of String.equals(Object) -/
abbrev wordsEq : List Jvm.Cond := [.code SEq.yN SEq.yB 3 (some .boolean), .initialized ST, .classLink ST 10 ST, .fieldLink ST 38 ST "COMPACT_STRINGS" "Z", .fieldLink ST 15 ST "coder" "B", .fieldLink ST 9 ST "value" "[B", .methodLink ST 541 LEq.yN, .static LEq.yN, .code LEq.yN LEq.yB 3 (some .boolean), .initialized "java/lang/StringLatin1"]
theorem tabEq_of {a : Array Value} {s : State} (h : ∀ w ∈ wordsEq, w.before a s = true) : SEq.tab.before a s = true := by
  have hl : LEq.tab.before a s = true := unparts (wk h (.code LEq.yN LEq.yB 3 (some .boolean))) (wks h (.initialized LEq.yN.cls :: LEq.site))
  have q := consq hl h
  exact unparts (wk q (.code SEq.yN SEq.yB 3 (some .boolean))) (wks q (.initialized SEq.yN.cls :: SEq.site))
theorem movedEq {Z s : State} {a0 args : Array Value} (hZ : Z.Warmed39 s.vm) (hw : ∀ d ∈ wordsEq, d.before a0 Z = true) : ∀ d ∈ wordsEq, d.before args s = true := fun d hd => by
  have t : ∀ d ∈ wordsEq, (d.onTables && d.keepsFace) = true := by decide +kernel
  exact RoadKit.mv hZ (hw d hd) (t d hd)
/-- the road's facts of a String, as the laws ask it -/
theorem txt_of {Z U : State} {a0 : Array Value} {kI : Nat} (wi : (Jvm.Cond.instantiable ST kI).before a0 Z = true) (al : Z.vm.Alike U.vm) {x t : Addr} {kb : ClassId} {cs : List Int32} {cd N2 : Int32} {vs : List Value} (E : RoadKit.Exa Z U.heap x ST) (V : RoadKit.Fld Z U.heap x ST "value" "[B" (.ref t)) (C : RoadKit.Fld Z U.heap x ST "coder" "B" (.int cd)) (K : RoadKit.Arv Z U.heap t kb .byte N2 vs (.int 0)) (hc : CodA cs cd N2 vs) (hb : ∀ c ∈ cs, ¬ c < 0 ∧ ¬ (65535 : Int32) < c) (l2 : cs.length ≤ 4000) :
    ∃ A, Txt x t A cd cs.length (fun j => cs.getD j 0) U := by
  obtain ⟨A, K1, K2, K3, K4, K5, K6⟩ := K
  have hcod := hc.cod (by omega) K3 K5
  obtain ⟨D, fV, fC, hB, F1, F2, g1, g2, -, -⟩ := strObj wi al E V C
  exact ⟨A, ⟨_, hB.2.2.1, D, hB.1, rfl, by cases q : D.vm <;> first | rfl | exact absurd q (hB.2.1.2 _)⟩, Has.of hB F1 g1, Has.of hB F2 g2, ⟨K1.1, State.isArrayOf_alike al K1.2.1, K1.2.2, by rcases hcod with ⟨-, q, -⟩ | ⟨-, q, -⟩ <;> omega⟩, hcod, fun j hj => by
    have e : cs.getD j 0 = cs[j] := by simp [List.getD_eq_getElem?_getD, hj]
    show ¬ cs.getD j 0 < 0 ∧ ¬ 65535 < cs.getD j 0
    rw [e]; exact hb _ (List.getElem_mem _)⟩
theorem same_list (cs ds : List Int32) : SameT cs.length (fun j => cs.getD j 0) ds.length (fun j => ds.getD j 0) ↔ cs = ds := by
  constructor
  · rintro ⟨e, q⟩
    refine List.ext_getElem e fun j h1 h2 => ?_
    have := q j h1
    simpa [List.getD_eq_getElem?_getD, h1, h2] using this
  · rintro rfl
    exact ⟨rfl, fun _ _ => rfl⟩
/-- **equals(Object) OF TWO SUCH STRINGS**: 1 just where the chars are the same -/
theorem eqW {p : Program} {l : Launch} {e : Env} {R : Room} {s : State} {args : Array Value} {below : List Frame} {len W : Nat} {Z : State} {a0 : Array Value} {h : Heap} (hZ : Z.Warmed39 s.vm) (hw : ∀ d ∈ wordsEq, d.before a0 Z = true) {kI : Nat} (wi : (Jvm.Cond.instantiable ST kI).before a0 Z = true)
    {x t : Addr} {kb : ClassId} {cs : List Int32} {cd N2 : Int32} {vs : List Value} (E : RoadKit.Exa Z h x ST) (V : RoadKit.Fld Z h x ST "value" "[B" (.ref t)) (C : RoadKit.Fld Z h x ST "coder" "B" (.int cd)) (K : RoadKit.Arv Z h t kb .byte N2 vs (.int 0)) (hc : CodA cs cd N2 vs) (hb : ∀ c ∈ cs, ¬ c < 0 ∧ ¬ (65535 : Int32) < c) (l2 : cs.length ≤ 4000)
    {y t' : Addr} {kb' : ClassId} {ds : List Int32} {cd' N2' : Int32} {vs' : List Value} (E' : RoadKit.Exa Z h y ST) (V' : RoadKit.Fld Z h y ST "value" "[B" (.ref t')) (C' : RoadKit.Fld Z h y ST "coder" "B" (.int cd')) (K' : RoadKit.Arv Z h t' kb' .byte N2' vs' (.int 0)) (hc' : CodA ds cd' N2' vs') (hb' : ∀ c ∈ ds, ¬ c < 0 ∧ ¬ (65535 : Int32) < c) (l2' : ds.length ≤ 4000)
    {z : Int32} (S : RoadKit.Sta Z h ST "COMPACT_STRINGS" "Z" (.int z)) (hz : ¬ z = 0) (hfr : 2 ≤ R.frames) (hlo : W + 28 ≤ R.locals) :
    Back l R p e below s args (⟨"java/lang/String", "equals", "(Ljava/lang/Object;)Z"⟩ : MethodName) len W (fun P a => a = #[.ref x, .ref y] ∧ P.U.heap = h ∧ P.cells + 0 ≤ R.cells ∧ P.slots + 0 ≤ R.slots)
      (fun P _ v B => ∃ L, (((v = some (.int 1) ∧ cs = ds) ∨ (v = some (.int 0) ∧ ¬ cs = ds)) ∧ L = [] ∧ B.U.heap = h) ∧ B.locs = P.locs ++ L ∧ B.cells = P.cells + 0 ∧ B.slots = P.slots + 0) := by
  intro m meth c P g ig mk a X hg hsize hdg hW hn hp'
  obtain ⟨rfl, rfl, r1, r2⟩ := hp'
  have al : Z.vm.Alike P.U.vm := hZ.alike.trans X.warmed.alike
  obtain ⟨A, hx⟩ := txt_of wi al E V C K hc hb l2
  obtain ⟨A', hy⟩ := txt_of wi al E' V' C' K' hc' hb' l2'
  obtain ⟨v, B, X', ⟨⟨w, hv, hh, hq⟩, hl, hk, hs⟩, st⟩ := SEq.pays x t A cd cs.length (fun j => cs.getD j 0) y t' A' cd' ds.length (fun j => ds.getD j 0) z (tabEq_of (movedEq hZ hw)) hfr hlo m meth c P g ig mk _ X hg hsize hdg hW hn ⟨r1, r2, rfl, hx, hy, sta_is al S, hz⟩
  refine ⟨v, B, X', ⟨[], ⟨?_, rfl, hh⟩, hl, hk, hs⟩, st⟩
  rcases hq with ⟨rfl, q⟩ | ⟨rfl, q⟩
  · exact Or.inl ⟨hv, (same_list cs ds).mp q⟩
  · exact Or.inr ⟨hv, fun e => q ((same_list cs ds).mpr e)⟩
end StrChars.Road
namespace StrChars.Road
open Jvm Sem ClassFile Op Lib Jvm.Stand Jvm.Free Jvm.Free.XT
open Jvm.Lib.Cold (StaticIs)
/-- what backV says of its String, as the contracts of this text ask it: cs's low bytes, coder 0 -/
theorem codOf {cs : List Int32} {n : Nat} (hn : cs.length = n) (hb : ∀ c ∈ cs, ¬ 255 < c) : CodA cs 0 (Int32.ofNat n) ((cs.map lo8).map Value.int) := Or.inl ⟨rfl, by rw [hn], by simp [List.map_map, Function.comp_def], hb⟩
end StrChars.Road
end Jvm.Pilot.@@N@@

namespace Jvm.Pilot.@@N@@
open Jvm Jvm.ClassFile Sem Op Lib Jvm.Free Jvm.Stand Jvm.LawKit Jvm.RoadKit Bundle Jvm.Pilot.@@N@@.Jvm.D
section OwnKit
variable {p : Program} {l : Launch} {e : Env} {R : Room} {s : State} {m : MethodId} {args : Array Value} {below : List Frame} {meth : Method} {c : Code} {T : State} {locs : List Loc} {cells slots : Nat} {Z : State} {a0 : Array Value} {h : Heap}
/-- the run from t ends, and Q holds of its end -/
def own_Fin (tb : Tables) (e : Env) (below : List Frame) (Q : Outcome → State → Prop) (t : State) : Prop := ∃ s₂ o, Steps tb e below t s₂ ∧ s₂.status = .running ∧ Ended s₂ below o ∧ Q o s₂
theorem own_go {tb : Tables} {Q : Outcome → State → Prop} {t t' : State} (k : ∀ z, Steps tb e below t' z → Steps tb e below t z) (f : own_Fin tb e below Q t') : own_Fin tb e below Q t := by
  obtain ⟨s₂, o, h1, h2⟩ := f
  exact ⟨s₂, o, k _ h1, h2⟩
/-- the run from t comes to a state of which G holds -/
def own_Go (tb : Tables) (e : Env) (below : List Frame) (G : State → Prop) (t : State) : Prop := ∃ t', G t' ∧ ∀ z, Steps tb e below t' z → Steps tb e below t z
theorem own_on {tb : Tables} {G : State → Prop} {t t' : State} (k : ∀ z, Steps tb e below t' z → Steps tb e below t z) (f : own_Go tb e below G t') : own_Go tb e below G t := by
  obtain ⟨t₂, h1, h2⟩ := f
  exact ⟨t₂, h1, fun z q => k z (h2 z q)⟩
theorem own_here {tb : Tables} {G : State → Prop} {t : State} (k : G t) : own_Go tb e below G t := ⟨t, k, fun _ q => q⟩
def own_End (s : State) (Q : Option Value → Heap → List Loc → Prop) (C S : Nat) (o : Outcome) (U : State) : Prop := ∃ v L, o = .returned v ∧ Q v U.heap L ∧ FrameEnd s o U L C S
variable {Q : Option Value → Heap → List Loc → Prop} {C S : Nat}
theorem own_retI (X : Stand p l e R s m args below meth c T locs cells slots) (hx : p.tables.exec = Jvm.exec) (hlk : meth.locks = false) {pc : Nat} {Ls : Array Slot} {z : Int32} {rest : List Value} (hret : meth.sig.returnType = some .int) (hd : decode c.code pc = .ok (.ireturn, 1)) (hq : Q (some (.int z)) T.heap locs) (hC : cells ≤ C) (hS : slots ≤ S) :
    own_Fin p.tables e below (own_End s Q C S) (T.setTop (mkF m pc Ls (.int z :: rest))) := by
  obtain ⟨fs, hr, hrun, hended, hW, hsame⟩ := X.leave (v := some (.int z)) (fun h => by rw [hret] at h; cases h) hlk
  exact ⟨_, _, retOut X hx hret rfl (Or.inl ⟨rfl, Or.inl rfl, _, rfl⟩) hd hr, hrun, hended, _, _, rfl, hq, ⟨_, rfl⟩, hW, hsame.mono hC hS⟩
theorem own_retN (X : Stand p l e R s m args below meth c T locs cells slots) (hx : p.tables.exec = Jvm.exec) (hlk : meth.locks = false) {pc : Nat} {Ls : Array Slot} {z : Int32} {rest : List Value} {t : FieldType} (hret : meth.sig.returnType = some t) (ht : t = .boolean ∨ t = .byte ∨ t = .char ∨ t = .short) (hd : decode c.code pc = .ok (.ireturn, 1)) (hq : Q (some (.int (nar t z))) T.heap locs) (hC : cells ≤ C) (hS : slots ≤ S) :
    own_Fin p.tables e below (own_End s Q C S) (T.setTop (mkF m pc Ls (.int z :: rest))) := by
  obtain ⟨fs, hr, hrun, hended, hW, hsame⟩ := X.leave (v := some (.int (nar t z))) (fun h => by rw [hret] at h; cases h) hlk
  exact ⟨_, _, retN X hx hret ht hd hr, hrun, hended, _, _, rfl, hq, ⟨_, rfl⟩, hW, hsame.mono hC hS⟩
theorem own_retJ (X : Stand p l e R s m args below meth c T locs cells slots) (hx : p.tables.exec = Jvm.exec) (hlk : meth.locks = false) {pc : Nat} {Ls : Array Slot} {z : Int64} {rest : List Value} (hret : meth.sig.returnType = some .long) (hd : decode c.code pc = .ok (.lreturn, 1)) (hq : Q (some (.long z)) T.heap locs) (hC : cells ≤ C) (hS : slots ≤ S) :
    own_Fin p.tables e below (own_End s Q C S) (T.setTop (mkF m pc Ls (.long z :: rest))) := by
  obtain ⟨fs, hr, hrun, hended, hW, hsame⟩ := X.leave (v := some (.long z)) (fun h => by rw [hret] at h; cases h) hlk
  exact ⟨_, _, retOut X hx hret rfl (Or.inr (Or.inl ⟨rfl, rfl, _, rfl⟩)) hd hr, hrun, hended, _, _, rfl, hq, ⟨_, rfl⟩, hW, hsame.mono hC hS⟩
theorem own_retA (X : Stand p l e R s m args below meth c T locs cells slots) (hx : p.tables.exec = Jvm.exec) (hlk : meth.locks = false) {pc : Nat} {Ls : Array Slot} {w : Value} {rest : List Value} {t : FieldType} (hret : meth.sig.returnType = some t) (ht : t.isReference = true) (hw : w.isRef = true) (hd : decode c.code pc = .ok (.areturn, 1)) (hq : Q (some w) T.heap locs) (hC : cells ≤ C) (hS : slots ≤ S) :
    own_Fin p.tables e below (own_End s Q C S) (T.setTop (mkF m pc Ls (w :: rest))) := by
  obtain ⟨fs, hr, hrun, hended, hW, hsame⟩ := X.leave (v := some w) (fun h => by rw [hret] at h; cases h) hlk
  have hn : narrow t w = w := by cases t <;> first | (cases ht; done) | (cases w <;> first | (cases hw; done) | rfl)
  exact ⟨_, _, retOut X hx hret hn (Or.inr (Or.inr (Or.inr (Or.inr ⟨rfl, ht, hw⟩)))) hd hr, hrun, hended, _, _, rfl, hq, ⟨_, rfl⟩, hW, hsame.mono hC hS⟩
theorem own_retV (X : Stand p l e R s m args below meth c T locs cells slots) (hx : p.tables.exec = Jvm.exec) (hlk : meth.locks = false) {pc : Nat} {Ls : Array Slot} (hret : meth.sig.returnType = none) (hd : decode c.code pc = .ok (.return_, 1)) (hq : Q none T.heap locs) (hC : cells ≤ C) (hS : slots ≤ S) :
    own_Fin p.tables e below (own_End s Q C S) (T.setTop (mkF m pc Ls [])) := by
  obtain ⟨fs, hr, hrun, hended, hW, hsame⟩ := X.leave (v := none) (fun _ => rfl) hlk
  exact ⟨_, _, X.returnOut hx hret hd hr, hrun, hended, _, _, rfl, hq, ⟨_, rfl⟩, hW, hsame.mono hC hS⟩
/-- what a body's contract says: called with as' at the heap h0 it returns, and Q holds of what it returns, of the heap and of the places written -/
def own_Met (l : Launch) (y : MethodName) (bytes : ByteArray) (maxL : Nat) (ret : Option FieldType) (rm : Room) (ws : List Jvm.Cond) (as' : Array Value) (Z : State) (h0 : Heap) (C S : Nat) (Q : Option Value → Heap → List Loc → Prop) : Prop :=
  MetFree l y (head1 (Jvm.Cond.code y bytes maxL ret :: ws) rm) (fun a U => a = as' ∧ Z.Warmed39 U.vm ∧ U.heap = h0) (fun _ _ _ _ _ => True) (fun _ U o U' => ∃ v L, o = .returned v ∧ Q v U'.heap L ∧ FrameEnd U o U' L C S)
theorem own_met {y : MethodName} {bytes : ByteArray} {maxL : Nat} {ret : Option FieldType} {rm : Room} {ws : List Jvm.Cond} {as' : Array Value} {h0 : Heap} (hy : plainFor y = true)
    (body : ∀ (p : Program) (e : Env) (s : State) (m : MethodId) (below : List Frame) (meth : Method) (c : Code) (s₁ : State), p.tables.exec = Jvm.exec → c.code = bytes → c.maxLocals = maxL → s.vm.findClass y.cls = some m.cls → meth.name = y.name → meth.sig.returnType = ret → meth.locks = false → Z.Warmed39 s.vm → s₁.heap = h0 → Stand p l e rm s m as' below meth c s₁ [] 0 0 → own_Fin p.tables e below (own_End s Q C S) (s₁.setTop (entryFrame m as' maxL))) :
    own_Met l y bytes maxL ret rm ws as' Z h0 C S Q := by
  refine MetFree.of_bodySF hy hisR ?_
  intro p e s m args below meth c s₁ Bd hml0 hP hK
  obtain ⟨rfl, hZ, hh⟩ := hP
  have X0 : Stand p l e rm s m args below meth c s₁ [] 0 0 := Stand.of_body Bd
  exact body p e s m below meth c s₁ Bd.exec Bd.bytes hml0 (findClass_of_methodNamed Bd.named) (name_of_methodNamed Bd.named Bd.method).1 Bd.returns Bd.notSynchronized hZ (by rw [← hh, Bd.state]; rfl) X0
section Calls
variable {own : String} {index : Nat} {y : MethodName} {bytes : ByteArray} {maxL : Nat} {ret : Option FieldType} {rm : Room} {as' : Array Value}
theorem own_callS (X : Stand p l e R s m args below meth c T locs cells slots) (hx : p.tables.exec = Jvm.exec) (hZ : Z.Warmed39 s.vm) (hown : s.vm.findClass own = some m.cls) (w1 : (Jvm.Cond.methodLink own index y).before a0 Z = true) (w2 : (Jvm.Cond.static y).before a0 Z = true) (w3 : (Jvm.Cond.initialized y.cls).before a0 Z = true) (w4 : (Jvm.Cond.code y bytes maxL ret).before a0 Z = true)
    (hy : y.cls ≠ "java/lang/invoke/MethodHandle" ∧ y.cls ≠ "java/lang/invoke/VarHandle") {W : Nat} (hM : own_Met l y bytes maxL ret rm [] as' Z h rm.cells rm.slots Q) (hf : rm.frames + 1 ≤ R.frames) (hl : W + (maxL + 11) + rm.locals ≤ R.locals) (eT : T.heap = h)
    {g : JFrame} (hg : g.method = m) (hsize : g.locals.size = c.maxLocals) {argsL rest : List Value} (has : argsL.toArray = as') (hlen : ∀ sig, parseMethodDescriptor y.desc = some sig → argsL.length = sig.parameters.length)
    (hstack : g.stack = argsL.reverse ++ rest) (hW : 2 * g.monitorRoom + (rest.map fun v => v.category).sum ≤ W) (hdg : decode c.code g.pc = .ok (.invokestatic index, 3)) (hc : cells + rm.cells ≤ R.cells) (hs : slots + rm.slots ≤ R.slots) :
    ∃ (v : Option Value) (T' : State) (L' : List Loc), Stand p l e R s m args below meth c T' (locs ++ L') (cells + rm.cells) (slots + rm.slots) ∧ Q v T'.heap L' ∧
      ∀ t, Steps p.tables e below (T'.setTop { g with pc := g.pc + 3, stack := v.toList ++ rest }) t → Steps p.tables e below (T.setTop g) t := by
  obtain ⟨v, vm1, ⟨T', L, k, n⟩, -, X', ⟨L', hQ, e1, e2, e3⟩, st⟩ := Jvm.LawKit.callS X hx hown (mvT hZ w1) (mvT hZ w2) (mvT hZ w3) (mvT hZ w4) hy (backOf (W := W) hM hZ w4 w3 hf hl) hg hsize hlen hstack hW hdg (fun _ _ => ⟨has, eT, hc, hs⟩)
  dsimp only [Pt.U, Pt.locs, Pt.cells, Pt.slots] at X' e1 e2 e3 st hQ
  subst e1 e2 e3
  exact ⟨v, T', L', X', hQ, st⟩
theorem own_callC (X : Stand p l e R s m args below meth c T locs cells slots) (hx : p.tables.exec = Jvm.exec) (hZ : Z.Warmed39 s.vm) (hown : s.vm.findClass own = some m.cls) (hnm : y.name = "<init>") (w1 : (Jvm.Cond.methodLink own index y).before a0 Z = true) (w2 : (Jvm.Cond.instanceMethod y).before a0 Z = true) (w3 : (Jvm.Cond.initialized y.cls).before a0 Z = true) (w4 : (Jvm.Cond.code y bytes maxL none).before a0 Z = true)
    (hy : y.cls ≠ "java/lang/invoke/MethodHandle" ∧ y.cls ≠ "java/lang/invoke/VarHandle") {W : Nat} (hM : own_Met l y bytes maxL none rm [] as' Z h rm.cells rm.slots Q) (hf : rm.frames + 1 ≤ R.frames) (hl : W + (maxL + 11) + rm.locals ≤ R.locals) (eT : T.heap = h)
    {g : JFrame} (hg : g.method = m) (hsize : g.locals.size = c.maxLocals) {a : Addr} {argsL rest : List Value} (has : (.ref a :: argsL).toArray = as') (hlen : ∀ sig, parseMethodDescriptor y.desc = some sig → argsL.length = sig.parameters.length)
    (hstack : g.stack = argsL.reverse ++ .ref a :: rest) (hW : 2 * g.monitorRoom + (rest.map fun v => v.category).sum ≤ W) (hdg : decode c.code g.pc = .ok (.invokespecial index, 3)) (hc : cells + rm.cells ≤ R.cells) (hs : slots + rm.slots ≤ R.slots) :
    ∃ (v : Option Value) (T' : State) (L' : List Loc), Stand p l e R s m args below meth c T' (locs ++ L') (cells + rm.cells) (slots + rm.slots) ∧ Q v T'.heap L' ∧
      ∀ t, Steps p.tables e below (T'.setTop { g with pc := g.pc + 3, stack := v.toList ++ rest }) t → Steps p.tables e below (T.setTop g) t := by
  obtain ⟨v, vm1, ⟨T', L, k, n⟩, -, X', ⟨L', hQ, e1, e2, e3⟩, st⟩ := X.specialBack hx hnm hown (mvT hZ w1) (mvT hZ w2) (mvT hZ w4) hy (backOf (W := W) hM hZ w4 w3 hf hl) hg hsize (Steps.refl _) hlen hstack hW hdg (fun _ _ => ⟨has, eT, hc, hs⟩)
  dsimp only [Pt.U, Pt.locs, Pt.cells, Pt.slots] at X' e1 e2 e3 st hQ
  subst e1 e2 e3
  exact ⟨v, T', L', X', hQ, fun _ k => st.trans k⟩
theorem own_callV (X : Stand p l e R s m args below meth c T locs cells slots) (hx : p.tables.exec = Jvm.exec) (hZ : Z.Warmed39 s.vm) (hown : s.vm.findClass own = some m.cls) {D : String} (w1 : (Jvm.Cond.methodLink own index y).before a0 Z = true) (w2 : (Jvm.Cond.declares y).before a0 Z = true) (w3 : (Jvm.Cond.selects D y y).before a0 Z = true) (w4 : (Jvm.Cond.instanceMethod y).before a0 Z = true) (w5 : (Jvm.Cond.initialized y.cls).before a0 Z = true) (w6 : (Jvm.Cond.code y bytes maxL ret).before a0 Z = true)
    (hy : y.cls ≠ "java/lang/invoke/MethodHandle" ∧ y.cls ≠ "java/lang/invoke/VarHandle") {W : Nat} (hM : own_Met l y bytes maxL ret rm [] as' Z h rm.cells rm.slots Q) (hf : rm.frames + 1 ≤ R.frames) (hl : W + (maxL + 11) + rm.locals ≤ R.locals) (eT : T.heap = h) {a : Addr} (E : Exa Z h a D)
    {g : JFrame} (hg : g.method = m) (hsize : g.locals.size = c.maxLocals) {argsL rest : List Value} (has : (.ref a :: argsL).toArray = as') (hlen : ∀ sig, parseMethodDescriptor y.desc = some sig → argsL.length = sig.parameters.length)
    (hstack : g.stack = argsL.reverse ++ .ref a :: rest) (hW : 2 * g.monitorRoom + (rest.map fun v => v.category).sum ≤ W) (hdg : decode c.code g.pc = .ok (.invokevirtual index, 3)) (hc : cells + rm.cells ≤ R.cells) (hs : slots + rm.slots ≤ R.slots) :
    ∃ (v : Option Value) (T' : State) (L' : List Loc), Stand p l e R s m args below meth c T' (locs ++ L') (cells + rm.cells) (slots + rm.slots) ∧ Q v T'.heap L' ∧
      ∀ t, Steps p.tables e below (T'.setTop { g with pc := g.pc + 3, stack := v.toList ++ rest }) t → Steps p.tables e below (T.setTop g) t := by
  obtain ⟨cq, kq, qa, qb, qc⟩ := isOf hZ eT E
  obtain ⟨v, vm1, ⟨T', L, k, n⟩, -, X', ⟨L', hQ, e1, e2, e3⟩, st⟩ := X.virtualBack hx hown (mvT hZ w1) (mvT hZ w2) (notFace_of_selects (args := #[]) (mvT hZ w3)) (mvT hZ w3) (mvT hZ w4) hy (backOf (W := W) hM hZ w6 w5 hf hl) qa qc hg hsize (Steps.refl _) hlen hstack hW hdg (fun _ _ => ⟨has, eT, hc, hs⟩)
  dsimp only [Pt.U, Pt.locs, Pt.cells, Pt.slots] at X' e1 e2 e3 st hQ
  subst e1 e2 e3
  exact ⟨v, T', L', X', hQ, fun _ k => st.trans k⟩
/-- as own_callC, own_callV, where who pays is given -/
theorem own_callCB (X : Stand p l e R s m args below meth c T locs cells slots) (hx : p.tables.exec = Jvm.exec) (hZ : Z.Warmed39 s.vm) (hown : s.vm.findClass own = some m.cls) (hnm : y.name = "<init>") (w1 : (Jvm.Cond.methodLink own index y).before a0 Z = true) (w2 : (Jvm.Cond.instanceMethod y).before a0 Z = true) (w4 : (Jvm.Cond.code y bytes maxL none).before a0 Z = true)
    (hy : y.cls ≠ "java/lang/invoke/MethodHandle" ∧ y.cls ≠ "java/lang/invoke/VarHandle") {W kc kn : Nat} (hK : Back l R p e below s args y 3 W (fun P a => a = as' ∧ P.U.heap = h ∧ P.cells + kc ≤ R.cells ∧ P.slots + kn ≤ R.slots) (fun P _ v B => ∃ L, Q v B.U.heap L ∧ B.locs = P.locs ++ L ∧ B.cells = P.cells + kc ∧ B.slots = P.slots + kn)) (eT : T.heap = h)
    {g : JFrame} (hg : g.method = m) (hsize : g.locals.size = c.maxLocals) {a : Addr} {argsL rest : List Value} (has : (.ref a :: argsL).toArray = as') (hlen : ∀ sig, parseMethodDescriptor y.desc = some sig → argsL.length = sig.parameters.length)
    (hstack : g.stack = argsL.reverse ++ .ref a :: rest) (hW : 2 * g.monitorRoom + (rest.map fun v => v.category).sum ≤ W) (hdg : decode c.code g.pc = .ok (.invokespecial index, 3)) (hc : cells + kc ≤ R.cells) (hs : slots + kn ≤ R.slots) :
    ∃ (v : Option Value) (T' : State) (L' : List Loc), Stand p l e R s m args below meth c T' (locs ++ L') (cells + kc) (slots + kn) ∧ Q v T'.heap L' ∧
      ∀ t, Steps p.tables e below (T'.setTop { g with pc := g.pc + 3, stack := v.toList ++ rest }) t → Steps p.tables e below (T.setTop g) t := by
  obtain ⟨v, vm1, ⟨T', L, k, n⟩, -, X', ⟨L', hQ, e1, e2, e3⟩, st⟩ := X.specialBack hx hnm hown (mvT hZ w1) (mvT hZ w2) (mvT hZ w4) hy hK hg hsize (Steps.refl _) hlen hstack hW hdg (fun _ _ => ⟨has, eT, hc, hs⟩)
  dsimp only [Pt.U, Pt.locs, Pt.cells, Pt.slots] at X' e1 e2 e3 st hQ
  subst e1 e2 e3
  exact ⟨v, T', L', X', hQ, fun _ k => st.trans k⟩
theorem own_callVB (X : Stand p l e R s m args below meth c T locs cells slots) (hx : p.tables.exec = Jvm.exec) (hZ : Z.Warmed39 s.vm) (hown : s.vm.findClass own = some m.cls) {D : String} (w1 : (Jvm.Cond.methodLink own index y).before a0 Z = true) (w2 : (Jvm.Cond.declares y).before a0 Z = true) (w3 : (Jvm.Cond.selects D y y).before a0 Z = true) (w4 : (Jvm.Cond.instanceMethod y).before a0 Z = true)
    (hy : y.cls ≠ "java/lang/invoke/MethodHandle" ∧ y.cls ≠ "java/lang/invoke/VarHandle") {W kc kn : Nat} {Qb : Option Value → State → List Loc → Prop} (hK : Back l R p e below s args y 3 W (fun P a => a = as' ∧ P.U.heap = h ∧ P.cells + kc ≤ R.cells ∧ P.slots + kn ≤ R.slots) (fun P _ v B => ∃ L, Qb v B.U L ∧ B.locs = P.locs ++ L ∧ B.cells = P.cells + kc ∧ B.slots = P.slots + kn)) (eT : T.heap = h) {a : Addr} (E : Exa Z h a D)
    {g : JFrame} (hg : g.method = m) (hsize : g.locals.size = c.maxLocals) {argsL rest : List Value} (has : (.ref a :: argsL).toArray = as') (hlen : ∀ sig, parseMethodDescriptor y.desc = some sig → argsL.length = sig.parameters.length)
    (hstack : g.stack = argsL.reverse ++ .ref a :: rest) (hW : 2 * g.monitorRoom + (rest.map fun v => v.category).sum ≤ W) (hdg : decode c.code g.pc = .ok (.invokevirtual index, 3)) (hc : cells + kc ≤ R.cells) (hs : slots + kn ≤ R.slots) :
    ∃ (v : Option Value) (T' : State) (L' : List Loc), Stand p l e R s m args below meth c T' (locs ++ L') (cells + kc) (slots + kn) ∧ Qb v T' L' ∧
      ∀ t, Steps p.tables e below (T'.setTop { g with pc := g.pc + 3, stack := v.toList ++ rest }) t → Steps p.tables e below (T.setTop g) t := by
  obtain ⟨cq, kq, qa, qb, qc⟩ := isOf hZ eT E
  obtain ⟨v, vm1, ⟨T', L, k, n⟩, -, X', ⟨L', hQ, e1, e2, e3⟩, st⟩ := X.virtualBack hx hown (mvT hZ w1) (mvT hZ w2) (notFace_of_selects (args := #[]) (mvT hZ w3)) (mvT hZ w3) (mvT hZ w4) hy hK qa qc hg hsize (Steps.refl _) hlen hstack hW hdg (fun _ _ => ⟨has, eT, hc, hs⟩)
  dsimp only [Pt.U, Pt.locs, Pt.cells, Pt.slots] at X' e1 e2 e3 st hQ
  subst e1 e2 e3
  exact ⟨v, T', L', X', hQ, fun _ k => st.trans k⟩
end Calls
section Arrays
variable {a : Addr} {k : ClassId} {ty : FieldType} {z : Int32} {vs : List Value} {dv : Value}
theorem own_alen (X : Stand p l e R s m args below meth c T locs cells slots) (hx : p.tables.exec = Jvm.exec) (hZ : Z.Warmed39 s.vm) (eT : T.heap = h) (V : Arv Z h a k ty z vs dv) {g : JFrame} (hg : g.method = m) {rest : List Value} (hs : g.stack = .ref a :: rest) (hd : decode c.code g.pc = .ok (.arraylength, 1)) {target : State}
    (hr : Steps p.tables e below (T.setTop { g with pc := g.pc + 1, stack := .int z :: rest }) target) : Steps p.tables e below (T.setTop g) target := by
  obtain ⟨cl, Ar, -, S, M, -, -⟩ := V
  refine X.arraylength hx (cell := cl) (by rw [eT]; exact Ar.1) (State.isArrayOf_alike hZ.alike Ar.2.1) hg hs hd _ ?_
  rw [len_of S M]; exact hr
theorem own_aald {C : String} (X : Stand p l e R s m args below meth c T locs cells slots) (hx : p.tables.exec = Jvm.exec) (hZ : Z.Warmed39 s.vm) (eT : T.heap = h) (V : Arv Z h a k (.object C) z vs dv) {j : Int32} (h1 : ¬ j < 0) (h2 : j < z) {g : JFrame} (hg : g.method = m) {rest : List Value} (hs : g.stack = .int j :: .ref a :: rest) (hd : decode c.code g.pc = .ok (.aaload, 1)) {target : State}
    (hr : Steps p.tables e below (T.setTop { g with pc := g.pc + 1, stack := vs.getD j.toNatClampNeg dv :: rest }) target) : Steps p.tables e below (T.setTop g) target := by
  obtain ⟨cl, Ar, -, S, M, H, -⟩ := V
  have hin := inb_of S ⟨h1, h2⟩
  exact X.aaload hx (j := j) (v := vs.getD j.toNatClampNeg dv) (by rw [eT]; exact Ar.1) (State.isArrayOf_alike hZ.alike Ar.2.1) rfl Ar.2.2 hin (Has.at H hin rfl) hg hs hd _ hr
end Arrays
/-- a body that returns r and leaves the heap as it was -/
def own_QP (r : Option Value) (h0 : Heap) (n0 : Nat) (v : Option Value) (h : Heap) (L : List Loc) : Prop := v = r ∧ Fr n0 L ∧ h = h0
end OwnKit
section OwnWide
variable {p : Program} {l : Launch} {e : Env} {R : Room} {s : State} {m : MethodId} {args : Array Value} {below : List Frame} {meth : Method} {c : Code} {T : State} {locs : List Loc} {cells slots : Nat} {Z : State} {a0 : Array Value} {h h' : Heap} {vm0 vm1 : Vm} {k0 : Nat}
variable {Q : Option Value → Heap → Vm → List Loc → Prop} {C S : Nat}
def own_EndW (s : State) (Q : Option Value → Heap → Vm → List Loc → Prop) (C S : Nat) (o : Outcome) (U : State) : Prop := ∃ v L, o = .returned v ∧ Q v U.heap U.vm L ∧ ReturnedEndW s o U L C S
theorem own_monoW {o : Outcome} {t : State} {L : List Loc} {k n : Nat} (h : ReturnedEndW s o t L k n) (hk : k ≤ C) (hn : n ≤ S) : ReturnedEndW s o t L C S := ⟨h.1, h.2.1, h.2.2.1, h.2.2.2.mono hk hn⟩
theorem own_retIW (X : Stand p l e R (s.setVm vm0) m args below meth c T locs cells slots) (hx : p.tables.exec = Jvm.exec) (hlk : meth.locks = false) (hS : s.Since vm0 k0) (hk : k0 ≤ T.heap.size) {pc : Nat} {Ls : Array Slot} {z : Int32} {rest : List Value} (hret : meth.sig.returnType = some .int) (hd : decode c.code pc = .ok (.ireturn, 1)) (hq : Q (some (.int z)) T.heap T.vm locs) (hC : cells ≤ C) (hs : slots ≤ S) :
    own_Fin p.tables e below (own_EndW s Q C S) (T.setTop (mkF m pc Ls (.int z :: rest))) := by
  obtain ⟨fs, hr, hrun, hended, hE⟩ := leaveW X hS hk (v := some (.int z)) (fun h => by rw [hret] at h; cases h) hlk
  exact ⟨_, _, retOut X hx hret rfl (Or.inl ⟨rfl, Or.inl rfl, _, rfl⟩) hd hr, hrun, hended, _, _, rfl, hq, own_monoW hE hC hs⟩
theorem own_retNW (X : Stand p l e R (s.setVm vm0) m args below meth c T locs cells slots) (hx : p.tables.exec = Jvm.exec) (hlk : meth.locks = false) (hS : s.Since vm0 k0) (hk : k0 ≤ T.heap.size) {pc : Nat} {Ls : Array Slot} {z : Int32} {rest : List Value} {t : FieldType} (hret : meth.sig.returnType = some t) (ht : t = .boolean ∨ t = .byte ∨ t = .char ∨ t = .short) (hd : decode c.code pc = .ok (.ireturn, 1)) (hq : Q (some (.int (nar t z))) T.heap T.vm locs) (hC : cells ≤ C) (hs : slots ≤ S) :
    own_Fin p.tables e below (own_EndW s Q C S) (T.setTop (mkF m pc Ls (.int z :: rest))) := by
  obtain ⟨fs, hr, hrun, hended, hE⟩ := leaveW X hS hk (v := some (.int (nar t z))) (fun h => by rw [hret] at h; cases h) hlk
  exact ⟨_, _, retN X hx hret ht hd hr, hrun, hended, _, _, rfl, hq, own_monoW hE hC hs⟩
theorem own_retAW (X : Stand p l e R (s.setVm vm0) m args below meth c T locs cells slots) (hx : p.tables.exec = Jvm.exec) (hlk : meth.locks = false) (hS : s.Since vm0 k0) (hk : k0 ≤ T.heap.size) {pc : Nat} {Ls : Array Slot} {w : Value} {rest : List Value} {t : FieldType} (hret : meth.sig.returnType = some t) (ht : t.isReference = true) (hw : w.isRef = true) (hd : decode c.code pc = .ok (.areturn, 1)) (hq : Q (some w) T.heap T.vm locs) (hC : cells ≤ C) (hs : slots ≤ S) :
    own_Fin p.tables e below (own_EndW s Q C S) (T.setTop (mkF m pc Ls (w :: rest))) := by
  obtain ⟨fs, hr, hrun, hended, hE⟩ := leaveW X hS hk (v := some w) (fun h => by rw [hret] at h; cases h) hlk
  have hn : narrow t w = w := by cases t <;> first | (cases ht; done) | (cases w <;> first | (cases hw; done) | rfl)
  exact ⟨_, _, retOut X hx hret hn (Or.inr (Or.inr (Or.inr (Or.inr ⟨rfl, ht, hw⟩)))) hd hr, hrun, hended, _, _, rfl, hq, own_monoW hE hC hs⟩
theorem own_retVW (X : Stand p l e R (s.setVm vm0) m args below meth c T locs cells slots) (hx : p.tables.exec = Jvm.exec) (hlk : meth.locks = false) (hS : s.Since vm0 k0) (hk : k0 ≤ T.heap.size) {pc : Nat} {Ls : Array Slot} (hret : meth.sig.returnType = none) (hd : decode c.code pc = .ok (.return_, 1)) (hq : Q none T.heap T.vm locs) (hC : cells ≤ C) (hs : slots ≤ S) :
    own_Fin p.tables e below (own_EndW s Q C S) (T.setTop (mkF m pc Ls [])) := by
  obtain ⟨fs, hr, hrun, hended, hE⟩ := leaveW X hS hk (v := none) (fun _ => rfl) hlk
  exact ⟨_, _, X.returnOut hx hret hd hr, hrun, hended, _, _, rfl, hq, own_monoW hE hC hs⟩
/-- a contract of a body that may load the literal: P is asked of the tables at its start -/
def own_MetW (l : Launch) (y : MethodName) (bytes : ByteArray) (maxL : Nat) (ret : Option FieldType) (rm : Room) (ws : List Jvm.Cond) (as' : Array Value) (Z : State) (h0 : Heap) (P : Vm → Prop) (C S : Nat) (Q : Option Value → Heap → Vm → List Loc → Prop) : Prop :=
  MetFree l y (head1 (Jvm.Cond.code y bytes maxL ret :: ws) rm) (fun a U => a = as' ∧ Z.Warmed39 U.vm ∧ U.heap = h0 ∧ P U.vm) (fun _ _ _ _ _ => True) (fun _ U o U' => ∃ v L, o = .returned v ∧ Q v U'.heap U'.vm L ∧ ReturnedEndW U o U' L C S)
theorem own_metW {y : MethodName} {bytes : ByteArray} {maxL : Nat} {ret : Option FieldType} {rm : Room} {ws : List Jvm.Cond} {as' : Array Value} {h0 : Heap} {P : Vm → Prop} (hy : plainFor y = true)
    (body : ∀ (p : Program) (e : Env) (s : State) (m : MethodId) (below : List Frame) (meth : Method) (c : Code) (s₁ : State), p.tables.exec = Jvm.exec → c.code = bytes → c.maxLocals = maxL → (s.setVm s.vm).vm.findClass y.cls = some m.cls → meth.name = y.name → meth.sig.returnType = ret → meth.locks = false → Z.Warmed39 (s.setVm s.vm).vm → s.heap = h0 → s₁.heap = h0 → P s.vm → s.Since s.vm 0 → Stand p l e rm (s.setVm s.vm) m as' below meth c s₁ [] 0 0 → own_Fin p.tables e below (own_EndW s Q C S) (s₁.setTop (entryFrame m as' maxL))) :
    own_MetW l y bytes maxL ret rm ws as' Z h0 P C S Q := by
  refine MetFree.of_bodySF hy hisR ?_
  intro p e s m args below meth c s₁ Bd hml0 hP hK
  obtain ⟨rfl, hZ, hh, hP⟩ := hP
  have X0 : Stand p l e rm s m args below meth c s₁ [] 0 0 := Stand.of_body Bd
  exact body p e s m below meth c s₁ Bd.exec Bd.bytes hml0 (findClass_of_methodNamed Bd.named) (name_of_methodNamed Bd.named Bd.method).1 Bd.returns Bd.notSynchronized hZ hh (by rw [← hh, Bd.state]; rfl) hP (State.WarmedH.since (State.WarmedH.refl s) 0) X0
section CallsW
variable {own : String} {index : Nat} {y : MethodName} {bytes : ByteArray} {maxL : Nat} {ret : Option FieldType} {rm : Room} {as' : Array Value} {P : Vm → Prop} {W : Nat}
theorem own_backW (hM : own_MetW l y bytes maxL ret rm [] as' Z h P rm.cells rm.slots Q) (hZ : Z.Warmed39 s.vm) (hP : ∀ vm, s.WarmedH vm → P vm) (wc : (Jvm.Cond.code y bytes maxL ret).before a0 Z = true) (wz : (Jvm.Cond.initialized y.cls).before a0 Z = true) (hf : rm.frames + 1 ≤ R.frames) (hl : W + (maxL + 11) + rm.locals ≤ R.locals) :
    BackS l R p e below s args y 3 W (fun A a => a = as' ∧ A.U.heap = h ∧ A.cells + rm.cells ≤ R.cells ∧ A.slots + rm.slots ≤ R.slots) (fun A _ v B => ∃ L, Q v B.U.heap B.U.vm L ∧ B.locs = A.locs ++ L ∧ B.cells = A.cells + rm.cells ∧ B.slots = A.slots + rm.slots) := by
  refine BackS.of_freeW (bytes := bytes) (maxL := maxL) (ret := ret) (E := fun _ _ o t L k n => k = rm.cells ∧ n = rm.slots ∧ ∃ v, o = .returned v ∧ Q v t.heap t.vm L) hM hf hl ?_ ?_ ?_ ?_ ?_
  · intro m meth c A a Y hp
    have hU : Z.Warmed39 A.U.vm := wtrans hZ Y.warmed
    refine ⟨?_, mv hU wc, mv hU wz, hp.2.2.1, hp.2.2.2⟩
    show (Jvm.Cond.and _ .tt).before a A.U = true
    rw [Cond.before_and, mv hU wc]; rfl
  · intro m meth c A a g mk Y hp
    exact ⟨hp.1, wtrans hZ Y.warmed, hp.2.1, hP _ Y.warmed⟩
  · intro m meth c A a g mk Y hp
    trivial
  · rintro a U o t ⟨v, L, h1, h2, h3⟩
    exact ⟨L, _, _, h3, rfl, rfl, v, h1, h2⟩
  · rintro m meth c A a g mk v t L k n Y hp - - ⟨rfl, rfl, v', e3, e4⟩
    cases e3
    exact ⟨L, e4, rfl, rfl, rfl⟩
theorem own_callSW (X : Stand p l e R (s.setVm vm0) m args below meth c T locs cells slots) (hx : p.tables.exec = Jvm.exec) (hZ : Z.Warmed39 (s.setVm vm0).vm) (hS : s.Since vm0 k0) (hk : k0 ≤ T.heap.size) (hown : (s.setVm vm0).vm.findClass own = some m.cls) (w1 : (Jvm.Cond.methodLink own index y).before a0 Z = true) (w2 : (Jvm.Cond.static y).before a0 Z = true) (w3 : (Jvm.Cond.initialized y.cls).before a0 Z = true) (w4 : (Jvm.Cond.code y bytes maxL ret).before a0 Z = true)
    (hy : y.cls ≠ "java/lang/invoke/MethodHandle" ∧ y.cls ≠ "java/lang/invoke/VarHandle") (hM : own_MetW l y bytes maxL ret rm [] as' Z h P rm.cells rm.slots Q) (hP : ∀ vm, (s.setVm vm0).WarmedH vm → P vm) (hf : rm.frames + 1 ≤ R.frames) (hl : W + (maxL + 11) + rm.locals ≤ R.locals) (eT : T.heap = h)
    {g : JFrame} (hg : g.method = m) (hsize : g.locals.size = c.maxLocals) {argsL rest : List Value} (has : argsL.toArray = as') (hlen : ∀ sig, parseMethodDescriptor y.desc = some sig → argsL.length = sig.parameters.length)
    (hstack : g.stack = argsL.reverse ++ rest) (hW : 2 * g.monitorRoom + (rest.map fun v => v.category).sum ≤ W) (hdg : decode c.code g.pc = .ok (.invokestatic index, 3)) (hc : cells + rm.cells ≤ R.cells) (hs : slots + rm.slots ≤ R.slots) :
    ∃ (v : Option Value) (T' : State) (L' : List Loc), Stand p l e R (s.setVm T'.vm) m args below meth c T' (locs ++ L') (cells + rm.cells) (slots + rm.slots) ∧ Z.Warmed39 (s.setVm T'.vm).vm ∧ s.Since T'.vm T'.heap.size ∧ (s.setVm T'.vm).vm.findClass own = some m.cls ∧ Q v T'.heap T'.vm L' ∧
      ∀ t, Steps p.tables e below (T'.setTop { g with pc := g.pc + 3, stack := v.toList ++ rest }) t → Steps p.tables e below (T.setTop g) t := by
  obtain ⟨v, vm1, ⟨T', L, k, n⟩, -, X', hS', hgr, ⟨L', hQ, e1, e2, e3⟩, st⟩ := callSS X hx hown (mvT hZ w1) (mvT hZ w2) (mvT hZ w3) (mvT hZ w4) hy (own_backW (W := W) hM hZ hP w4 w3 hf hl) hg hsize hlen hstack hW hdg (fun _ _ => ⟨has, eT, hc, hs⟩)
  dsimp only [Pt.U, Pt.locs, Pt.cells, Pt.slots] at X' e1 e2 e3 st hQ hS' hgr
  subst e1 e2 e3
  exact ⟨v, T', L', X', State.Warmed39.trans (t := s.setVm vm0) hZ hS'.1, hS.trans hS' (Nat.le_trans hk hgr), by rw [show (s.setVm T'.vm).vm = T'.vm from rfl, hS'.1.alike.findClass]; exact hown, hQ, fun _ k => st.trans k⟩
theorem own_callCW (X : Stand p l e R (s.setVm vm0) m args below meth c T locs cells slots) (hx : p.tables.exec = Jvm.exec) (hZ : Z.Warmed39 (s.setVm vm0).vm) (hS : s.Since vm0 k0) (hk : k0 ≤ T.heap.size) (hown : (s.setVm vm0).vm.findClass own = some m.cls) (hnm : y.name = "<init>") (w1 : (Jvm.Cond.methodLink own index y).before a0 Z = true) (w2 : (Jvm.Cond.instanceMethod y).before a0 Z = true) (w3 : (Jvm.Cond.initialized y.cls).before a0 Z = true) (w4 : (Jvm.Cond.code y bytes maxL none).before a0 Z = true)
    (hy : y.cls ≠ "java/lang/invoke/MethodHandle" ∧ y.cls ≠ "java/lang/invoke/VarHandle") (hM : own_MetW l y bytes maxL none rm [] as' Z h P rm.cells rm.slots Q) (hP : ∀ vm, (s.setVm vm0).WarmedH vm → P vm) (hf : rm.frames + 1 ≤ R.frames) (hl : W + (maxL + 11) + rm.locals ≤ R.locals) (eT : T.heap = h)
    {g : JFrame} (hg : g.method = m) (hsize : g.locals.size = c.maxLocals) {a : Addr} {argsL rest : List Value} (has : (.ref a :: argsL).toArray = as') (hlen : ∀ sig, parseMethodDescriptor y.desc = some sig → argsL.length = sig.parameters.length)
    (hstack : g.stack = argsL.reverse ++ .ref a :: rest) (hW : 2 * g.monitorRoom + (rest.map fun v => v.category).sum ≤ W) (hdg : decode c.code g.pc = .ok (.invokespecial index, 3)) (hc : cells + rm.cells ≤ R.cells) (hs : slots + rm.slots ≤ R.slots) :
    ∃ (v : Option Value) (T' : State) (L' : List Loc), Stand p l e R (s.setVm T'.vm) m args below meth c T' (locs ++ L') (cells + rm.cells) (slots + rm.slots) ∧ Z.Warmed39 (s.setVm T'.vm).vm ∧ s.Since T'.vm T'.heap.size ∧ (s.setVm T'.vm).vm.findClass own = some m.cls ∧ Q v T'.heap T'.vm L' ∧
      ∀ t, Steps p.tables e below (T'.setTop { g with pc := g.pc + 3, stack := v.toList ++ rest }) t → Steps p.tables e below (T.setTop g) t := by
  obtain ⟨v, vm1, ⟨T', L, k, n⟩, -, X', hS', hgr, ⟨L', hQ, e1, e2, e3⟩, st⟩ := X.specialBackS hx hnm hown (mvT hZ w1) (mvT hZ w2) (mvT hZ w4) hy (own_backW (W := W) hM hZ hP w4 w3 hf hl) hg hsize (Steps.refl _) hlen hstack hW hdg (fun _ _ => ⟨has, eT, hc, hs⟩)
  dsimp only [Pt.U, Pt.locs, Pt.cells, Pt.slots] at X' e1 e2 e3 st hQ hS' hgr
  subst e1 e2 e3
  exact ⟨v, T', L', X', State.Warmed39.trans (t := s.setVm vm0) hZ hS'.1, hS.trans hS' (Nat.le_trans hk hgr), by rw [show (s.setVm T'.vm).vm = T'.vm from rfl, hS'.1.alike.findClass]; exact hown, hQ, fun _ k => st.trans k⟩
end CallsW
end OwnWide
section OwnStr
variable {Z : State} {h h' : Heap} {vm0 vm1 : Vm} {s : State} {x a : Addr} {cs : List Int32} {B B' : Nat} {a0 : Array Value} {C : String} {kk : Nat}
def own_Chr (cs : List Int32) : Prop := (∀ c ∈ cs, ¬ c < 0 ∧ ¬ (255 : Int32) < c) ∧ cs.length ≤ 4000
/-- x is a String of the chars cs (each 0 to 255); it and its bytes lie below B -/
def own_Str (Z : State) (h : Heap) (x : Addr) (cs : List Int32) (B : Nat) : Prop := Exa Z h x "java/lang/String" ∧ own_Chr cs ∧ x < B ∧ ∃ (t : Addr) (kb : ClassId), t < B ∧ Fld Z h x "java/lang/String" "coder" "B" (.int 0) ∧ Fld Z h x "java/lang/String" "value" "[B" (.ref t) ∧ Arv Z h t kb .byte (Int32.ofNat cs.length) ((cs.map (fun c => c.toInt8.toInt32)).map Value.int) (.int 0)
theorem own_Str.mono (H : own_Str Z h x cs B) (q : B ≤ B') : own_Str Z h x cs B' := by
  obtain ⟨h1, hc, h2, t, kb, h3, r⟩ := H
  exact ⟨h1, hc, Nat.lt_of_lt_of_le h2 q, t, kb, Nat.lt_of_lt_of_le h3 q, r⟩
theorem own_Str.ext (H : own_Str Z h x cs B) (E : Ext h h') : own_Str Z h' x cs B := by
  obtain ⟨h1, hc, h2, t, kb, h3, h4, h5, h6⟩ := H
  exact ⟨h1.ext E, hc, h2, t, kb, h3, h4.ext E, h5.ext E, h6.ext E⟩
theorem own_Str.keep0 (H : own_Str Z h x cs B) (K : Keep h h' []) : own_Str Z h' x cs B := by
  obtain ⟨h1, hc, h2, t, kb, h3, h4, h5, h6⟩ := H
  exact ⟨h1.keep K, hc, h2, t, kb, h3, h4.keep K nin0, h5.keep K nin0, h6.keep K nin0⟩
theorem own_Str.keepB (H : own_Str Z h x cs B) (K : Keep h h' [a]) (q : B ≤ a) : own_Str Z h' x cs B := by
  obtain ⟨h1, hc, h2, t, kb, h3, h4, h5, h6⟩ := H
  have n1 : x ≠ a := Nat.ne_of_lt (Nat.lt_of_lt_of_le h2 q)
  have n2 : t ≠ a := Nat.ne_of_lt (Nat.lt_of_lt_of_le h3 q)
  exact ⟨h1.keep K, hc, h2, t, kb, h3, h4.keep K (ninS n1 nin0), h5.keep K (ninS n1 nin0), h6.keep K (ninS n2 nin0)⟩
theorem own_Str.keepC (H : own_Str Z h x cs B) (K : Keep h h' [a]) (E : Exa Z h a C) (hC : C ≠ "java/lang/String") (w : (Jvm.Cond.instantiable C kk).before a0 Z = true) : own_Str Z h' x cs B := by
  obtain ⟨h1, hc, h2, t, kb, h3, h4, h5, h6⟩ := H
  have n1 : x ≠ a := fun q => Exa.ne E h1 hC q.symm
  have n2 : t ≠ a := fun q => Exa.neArv E h6 w q.symm
  exact ⟨h1.keep K, hc, h2, t, kb, h3, h4.keep K (ninS n1 nin0), h5.keep K (ninS n1 nin0), h6.keep K (ninS n2 nin0)⟩
/-- the literal "" (entry 7 of java/lang/String's pool): this walk has not loaded it, or it is booked and known -/
def own_LO (Z : State) (vm : Vm) (h : Heap) (B : Nat) : Prop := IB Z vm [] ∨ ∃ a : Addr, Lit (Z.setVm vm) "java/lang/String" 7 a ∧ own_Str Z h a [] B
theorem own_LO.mono (H : own_LO Z vm0 h B) (q : B ≤ B') : own_LO Z vm0 h B' := H.imp id fun ⟨a, h1, h2⟩ => ⟨a, h1, h2.mono q⟩
theorem own_LO.ext (H : own_LO Z vm0 h B) (E : Ext h h') : own_LO Z vm0 h' B := H.imp id fun ⟨a, h1, h2⟩ => ⟨a, h1, h2.ext E⟩
theorem own_LO.keep0 (H : own_LO Z vm0 h B) (K : Keep h h' []) : own_LO Z vm0 h' B := H.imp id fun ⟨a, h1, h2⟩ => ⟨a, h1, h2.keep0 K⟩
theorem own_LO.keepB (H : own_LO Z vm0 h B) (K : Keep h h' [a]) (q : B ≤ a) : own_LO Z vm0 h' B := H.imp id fun ⟨b, h1, h2⟩ => ⟨b, h1, h2.keepB K q⟩
theorem own_LO.keepC (H : own_LO Z vm0 h B) (K : Keep h h' [a]) (E : Exa Z h a C) (hC : C ≠ "java/lang/String") (w : (Jvm.Cond.instantiable C kk).before a0 Z = true) : own_LO Z vm0 h' B := H.imp id fun ⟨b, h1, h2⟩ => ⟨b, h1, h2.keepC K E hC w⟩
theorem own_LO.warm (H : own_LO Z vm0 h B) (hW : (s.setVm vm0).WarmedH vm1) : own_LO Z vm1 h B := by
  rcases H with H | ⟨b, h1, h2⟩
  · refine Or.inl ?_
    obtain ⟨more, q1, q2⟩ := H
    exact ⟨more, by rw [hW.interned_eq]; exact q1, q2⟩
  · refine Or.inr ⟨b, ?_, h2⟩
    have h1' : Lit (s.setVm vm0) "java/lang/String" 7 b := h1
    exact Lit.stays h1' hW.wide
theorem own_Chr_nil : own_Chr [] := ⟨fun c hc => (nomatch hc), Nat.zero_le _⟩
def own_eq (cs ds : List Int32) : Int32 := if cs = ds then 1 else 0
theorem own_eq_of {v : Option Value} {cs ds : List Int32} (h : (v = some (.int 1) ∧ cs = ds) ∨ (v = some (.int 0) ∧ ¬ cs = ds)) : v = some (.int (own_eq cs ds)) := by
  unfold own_eq
  rcases h with ⟨h1, h2⟩ | ⟨h1, h2⟩
  · rw [if_pos h2]; exact h1
  · rw [if_neg h2]; exact h1
end OwnStr
theorem dE4_0 : decode jdk_42_method_149_code 0 = .ok (.aload_n 0, 1) := by decide +kernel
theorem dE4_1 : decode jdk_42_method_149_code 1 = .ok (.invokespecial 1, 3) := by decide +kernel
theorem dE4_4 : decode jdk_42_method_149_code 4 = .ok (.iload_n 3, 1) := by decide +kernel
theorem dE4_5 : decode jdk_42_method_149_code 5 = .ok (.ifCond .ne 22, 3) := by decide +kernel
theorem dE4_8 : decode jdk_42_method_149_code 8 = .ok (.aload_n 0, 1) := by decide +kernel
theorem dE4_9 : decode jdk_42_method_149_code 9 = .ok (.ldc 7, 2) := by decide +kernel
theorem dE4_11 : decode jdk_42_method_149_code 11 = .ok (.getfield 9, 3) := by decide +kernel
theorem dE4_14 : decode jdk_42_method_149_code 14 = .ok (.putfield 9, 3) := by decide +kernel
theorem dE4_17 : decode jdk_42_method_149_code 17 = .ok (.aload_n 0, 1) := by decide +kernel
theorem dE4_18 : decode jdk_42_method_149_code 18 = .ok (.ldc 7, 2) := by decide +kernel
theorem dE4_20 : decode jdk_42_method_149_code 20 = .ok (.getfield 15, 3) := by decide +kernel
theorem dE4_23 : decode jdk_42_method_149_code 23 = .ok (.putfield 15, 3) := by decide +kernel
theorem dE4_26 : decode jdk_42_method_149_code 26 = .ok (.return_, 1) := by decide +kernel
theorem pn0 : plainName "java/lang/String" = true := by first | (simp [plainName, overriddenIn]; done) | decide +kernel
theorem pd0 : parseMethodDescriptor "([CIILjava/lang/Void;)V" = some ⟨[(.array .char), .int, .int, (.object "java/lang/Void")], none⟩ := by decide +kernel
theorem efE4 (m : MethodId) (r0 : Addr) (r1 : Addr) : entryFrame m #[(.ref r0), (.ref r1), (.int (0 : Int32)), (.int (0 : Int32)), .null] 6 = mkF m 0 #[.val (.ref r0), .val (.ref r1), .val (.int (0 : Int32)), .val (.int (0 : Int32)), .val .null, .unset] [] := by first | (simp [entryFrame, mkF, argsToLocals, Value.category]; done) | rfl
set_option maxRecDepth 65536 in
set_option maxHeartbeats 40000000 in
theorem rmE4 (l : Launch) (Z : State) (a0 : Array Value) (hw : ∀ d ∈ tables_1, d.before a0 Z = true) (ws : List Jvm.Cond) (r0 : Addr) (r1 : Addr) (u_coder : Value) (h0 : Heap) (n0 : Nat) (Z0 : n0 ≤ h0.size) (E_a : Exa Z h0 r0 "java/lang/String") (F_value : Fld Z h0 r0 "java/lang/String" "value" "[B" .null) (F_coder : Fld Z h0 r0 "java/lang/String" "coder" "B" u_coder) (g_a : n0 ≤ r0) (O0 : Old Z n0 h0) (hheld : Jvm.Lit.constHeld Z "java/lang/String" 7) (hcw : Jvm.Lit.compactW.before a0 Z = true) :
    own_MetW l (⟨"java/lang/String", "<init>", "([CIILjava/lang/Void;)V"⟩ : MethodName) jdk_42_method_149_code 6 none ({ frames := 1, cells := 2, slots := 4, locals := 12 } : Room) ws #[(.ref r0), (.ref r1), (.int (0 : Int32)), (.int (0 : Int32)), .null] Z h0 (fun vm => own_LO Z vm h0 h0.size) 2 4 (fun v h vm L => v = none ∧ Fr n0 L ∧ Keep h0 h [r0] ∧ own_Str Z h r0 [] h.size ∧ own_LO Z vm h h.size) := by
  refine own_metW (plainFor_of_name pn0) ?_
  intro p e s m below meth c s₁ hx hby hml hown hnm hret hlk hZ hh0 e0 LO0 hS0 X0
  have hml : c.maxLocals = 6 := hml
  have N0 := Fr.nil n0
  have K0 := Keep.refl h0 [r0]
  have hsa : ∀ d ∈ Bundle.stringAtoms, d.before a0 Z = true := fun d hd => hw d ((by decide +kernel : ∀ d ∈ Bundle.stringAtoms, d ∈ tables_1) d hd)
  have hkeep : ∀ (b : Addr) (cl : Cell), Z.heap[b]? = some cl → s.heap[b]? = some cl := fun b cl q => by rw [hh0]; exact O0.2.2 b cl q
  refine own_go (fun _ k => castTop (efE4 m r0 r1) k) ?_
  show own_Fin p.tables e below _ (s₁.setTop (mkF m 0 #[.val (.ref r0), .val (.ref r1), .val (.int (0 : Int32)), .val (.int (0 : Int32)), .val .null, .unset] []))
  refine own_go (fun _ k => XS.aloadN X0.here hx rfl (hb hby dE4_0) rfl rfl k) ?_
  show own_Fin p.tables e below _ (s₁.setTop (mkF m 1 #[.val (.ref r0), .val (.ref r1), .val (.int (0 : Int32)), .val (.int (0 : Int32)), .val .null, .unset] [(.ref r0)]))
  obtain ⟨T1, X1, e1, st1⟩ := initO X0 hx hZ hown (hw _ (List.mem_of_getElem? (i := 18) rfl)) (hw _ (List.mem_of_getElem? (i := 19) rfl)) (hw _ (List.mem_of_getElem? (i := 20) rfl)) e0 (g := (mkF m 1 #[.val (.ref r0), .val (.ref r1), .val (.int (0 : Int32)), .val (.int (0 : Int32)), .val .null, .unset] [(.ref r0)])) rfl (by rw [hml]; rfl) rfl (hb hby dE4_1) (by decide) (W := 0) (by show 2 * 0 + _ ≤ _; exact Nat.le_of_eq rfl) (by decide)
  refine own_go st1 ?_
  show own_Fin p.tables e below _ (T1.setTop (mkF m 4 #[.val (.ref r0), .val (.ref r1), .val (.int (0 : Int32)), .val (.int (0 : Int32)), .val .null, .unset] []))
  refine own_go (fun _ k => XS.iloadN X1.here hx rfl (hb hby dE4_4) rfl k) ?_
  show own_Fin p.tables e below _ (T1.setTop (mkF m 5 #[.val (.ref r0), .val (.ref r1), .val (.int (0 : Int32)), .val (.int (0 : Int32)), .val .null, .unset] [(.int (0 : Int32))]))
  refine own_go (fun _ k => XS.ifNo X1.here hx rfl (hb hby dE4_5) rfl (XT.i0_ne_f (by decide)) k) ?_
  show own_Fin p.tables e below _ (T1.setTop (mkF m 8 #[.val (.ref r0), .val (.ref r1), .val (.int (0 : Int32)), .val (.int (0 : Int32)), .val .null, .unset] []))
  refine own_go (fun _ k => XS.aloadN X1.here hx rfl (hb hby dE4_8) rfl rfl k) ?_
  show own_Fin p.tables e below _ (T1.setTop (mkF m 9 #[.val (.ref r0), .val (.ref r1), .val (.int (0 : Int32)), .val (.int (0 : Int32)), .val .null, .unset] [(.ref r0)]))
  rcases LO0 with I2 | ⟨al2, L2, SS2⟩
  · obtain ⟨al2, T2, h2, kq2, bl2, kl2, X2, e2, E2, hS2, hk2, hZ2, ho2, El2, Cl2, Vl2, Al2, la2, lb2, -, L2, st2⟩ := ldcSVL X1 hx hZ hown (hw _ (List.mem_of_getElem? (i := 21) rfl)) hsa e1 hS0 (Nat.zero_le _) (Fr.nil _) hkeep I2 (by simp) hheld hcw (vs := []) (z := 0) ⟨fun c hc => by simp at hc, rfl⟩ (by decide) rfl (g := (mkF m 9 #[.val (.ref r0), .val (.ref r1), .val (.int (0 : Int32)), .val (.int (0 : Int32)), .val .null, .unset] [(.ref r0)])) rfl (hb hby dE4_9) (n := 0) (by decide) (by decide) (by decide) (by decide)
    have ne_r0_al2 : r0 ≠ al2 := Fld.ne (F_value.ext E2) Vl2 (by simp)
    have Er0_2 := E_a.ext E2
    have Fr0_value_2 := F_value.ext E2
    have Fr0_coder_2 := F_coder.ext E2
    have K2 := K0.ext E2
    have ne_r0_bl2 : r0 ≠ bl2 := Exa.neArv Er0_2 Al2 (hw _ (List.mem_of_getElem? (i := 8) rfl))
    refine own_go st2 ?_
    show own_Fin p.tables e below _ (T2.setTop (mkF m 11 #[.val (.ref r0), .val (.ref r1), .val (.int (0 : Int32)), .val (.int (0 : Int32)), .val .null, .unset] [(.ref al2), (.ref r0)]))
    obtain ⟨T3, X3, e3, st3⟩ := getF X2 hx hZ2 ho2 (host := "") (Or.inl (hw _ (List.mem_of_getElem? (i := 27) rfl))) Via.refl e2 Vl2 (g := (mkF m 11 #[.val (.ref r0), .val (.ref r1), .val (.int (0 : Int32)), .val (.int (0 : Int32)), .val .null, .unset] [(.ref al2), (.ref r0)])) rfl rfl (hb hby dE4_11)
    refine own_go st3 ?_
    show own_Fin p.tables e below _ (T3.setTop (mkF m 14 #[.val (.ref r0), .val (.ref r1), .val (.int (0 : Int32)), .val (.int (0 : Int32)), .val .null, .unset] [(.ref bl2), (.ref r0)]))
    obtain ⟨T4, h4, X4, e4, W4, st4⟩ := putF X3 hx hZ2 ho2 (host := "") (Or.inl (hw _ (List.mem_of_getElem? (i := 27) rfl))) Via.refl e3 Fr0_value_2 Er0_2 (Or.inr ⟨(hw _ (List.mem_of_getElem? (i := 23) rfl)), rfl, hnm⟩) (hw _ (List.mem_of_getElem? (i := 8) rfl)) (ty := (.array .byte)) (by decide) rfl rfl (g := (mkF m 14 #[.val (.ref r0), .val (.ref r1), .val (.int (0 : Int32)), .val (.int (0 : Int32)), .val .null, .unset] [(.ref bl2), (.ref r0)])) rfl rfl (hb hby dE4_14)
    have K4 := K2.wr W4 (Or.inl (List.mem_of_getElem? (i := 0) rfl))
    have N4 := Fr.snoc X4 N0 g_a
    have Er0_4 := Er0_2.wr W4
    have Fr0_value_4 := Fr0_value_2.same W4
    have Fr0_coder_4 := Fr0_coder_2.other W4 (Or.inr (slot_ne (Or.inr (hw _ (List.mem_of_getElem? (i := 24) rfl))) (Or.inr (hw _ (List.mem_of_getElem? (i := 23) rfl))) (by decide) (t := .byte) (t' := (.array .byte)) (by decide) (by decide)))
    have Eal2_4 := El2.wr W4
    have Fal2_coder_4 := Cl2.other W4 (Or.inl (Ne.symm ne_r0_al2))
    have Fal2_value_4 := Vl2.other W4 (Or.inl (Ne.symm ne_r0_al2))
    have Vbl2_4 := Al2.other W4 (Ne.symm ne_r0_bl2)
    refine own_go st4 ?_
    show own_Fin p.tables e below _ (T4.setTop (mkF m 17 #[.val (.ref r0), .val (.ref r1), .val (.int (0 : Int32)), .val (.int (0 : Int32)), .val .null, .unset] []))
    refine own_go (fun _ k => XS.aloadN X4.here hx rfl (hb hby dE4_17) rfl rfl k) ?_
    show own_Fin p.tables e below _ (T4.setTop (mkF m 18 #[.val (.ref r0), .val (.ref r1), .val (.int (0 : Int32)), .val (.int (0 : Int32)), .val .null, .unset] [(.ref r0)]))
    have st5 := ldcAgain X4 hx hZ2 ho2 (hw _ (List.mem_of_getElem? (i := 21) rfl)) L2 (g := (mkF m 18 #[.val (.ref r0), .val (.ref r1), .val (.int (0 : Int32)), .val (.int (0 : Int32)), .val .null, .unset] [(.ref r0)])) rfl (hb hby dE4_18)
    refine own_go st5 ?_
    show own_Fin p.tables e below _ (T4.setTop (mkF m 20 #[.val (.ref r0), .val (.ref r1), .val (.int (0 : Int32)), .val (.int (0 : Int32)), .val .null, .unset] [(.ref al2), (.ref r0)]))
    obtain ⟨T6, X6, e6, st6⟩ := getF X4 hx hZ2 ho2 (host := "") (Or.inl (hw _ (List.mem_of_getElem? (i := 28) rfl))) Via.refl e4 Fal2_coder_4 (g := (mkF m 20 #[.val (.ref r0), .val (.ref r1), .val (.int (0 : Int32)), .val (.int (0 : Int32)), .val .null, .unset] [(.ref al2), (.ref r0)])) rfl rfl (hb hby dE4_20)
    refine own_go st6 ?_
    show own_Fin p.tables e below _ (T6.setTop (mkF m 23 #[.val (.ref r0), .val (.ref r1), .val (.int (0 : Int32)), .val (.int (0 : Int32)), .val .null, .unset] [(.int (0 : Int32)), (.ref r0)]))
    obtain ⟨T7, h7, X7, e7, W7, st7⟩ := putF X6 hx hZ2 ho2 (host := "") (Or.inl (hw _ (List.mem_of_getElem? (i := 28) rfl))) Via.refl e6 Fr0_coder_4 Er0_4 (Or.inr ⟨(hw _ (List.mem_of_getElem? (i := 24) rfl)), rfl, hnm⟩) (hw _ (List.mem_of_getElem? (i := 8) rfl)) (ty := .byte) (by decide) rfl rfl (g := (mkF m 23 #[.val (.ref r0), .val (.ref r1), .val (.int (0 : Int32)), .val (.int (0 : Int32)), .val .null, .unset] [(.int (0 : Int32)), (.ref r0)])) rfl rfl (hb hby dE4_23)
    have K7 := K4.wr W7 (Or.inl (List.mem_of_getElem? (i := 0) rfl))
    have N7 := Fr.snoc X7 N4 g_a
    have Er0_7 := Er0_4.wr W7
    have Fr0_value_7 := Fr0_value_4.other W7 (Or.inr (slot_ne (Or.inr (hw _ (List.mem_of_getElem? (i := 23) rfl))) (Or.inr (hw _ (List.mem_of_getElem? (i := 24) rfl))) (by decide) (t := (.array .byte)) (t' := .byte) (by decide) (by decide)))
    have Fr0_coder_7 := Fr0_coder_4.same W7
    have Eal2_7 := Eal2_4.wr W7
    have Fal2_coder_7 := Fal2_coder_4.other W7 (Or.inl (Ne.symm ne_r0_al2))
    have Fal2_value_7 := Fal2_value_4.other W7 (Or.inl (Ne.symm ne_r0_al2))
    have Vbl2_7 := Vbl2_4.other W7 (Ne.symm ne_r0_bl2)
    refine own_go st7 ?_
    show own_Fin p.tables e below _ (T7.setTop (mkF m 26 #[.val (.ref r0), .val (.ref r1), .val (.int (0 : Int32)), .val (.int (0 : Int32)), .val .null, .unset] []))
    refine own_retVW X7 hx hlk hS2 (by rw [e7]; exact (Nat.le_trans (Nat.le_trans hk2 (Keep.of_wr W4).1) (Keep.of_wr W7).1)) hret (hb hby dE4_26) ?_ (by decide) (by decide)
    show _ ∧ _ ∧ Keep h0 T7.heap _ ∧ own_Str Z T7.heap _ _ _ ∧ own_LO Z _ T7.heap _
    rw [e7]
    have hA : al2 < h7.size := Eal2_7.lt
    have hB : bl2 < h7.size := Vbl2_7.lt
    have hR : r0 < h7.size := Er0_7.lt
    have hL : Lit (Z.setVm T7.vm) "java/lang/String" 7 al2 := Lit.stays (L2 : Lit _ "java/lang/String" 7 _) X7.warmed.wide
    exact ⟨rfl, N7, K7, ⟨Er0_7, own_Chr_nil, hR, bl2, kl2, hB, Fr0_coder_7, Fr0_value_7, Vbl2_7⟩, Or.inr ⟨al2, hL, Eal2_7, own_Chr_nil, hA, bl2, kl2, hB, Fal2_coder_7, Fal2_value_7, Vbl2_7⟩⟩
  · obtain ⟨El2, -, la2, bl2, kl2, lb2, Cl2, Vl2, Al2⟩ := SS2
    have st2 := ldcAgain X1 hx hZ hown (hw _ (List.mem_of_getElem? (i := 21) rfl)) (L2 : Lit _ "java/lang/String" 7 _) (g := (mkF m 9 #[.val (.ref r0), .val (.ref r1), .val (.int (0 : Int32)), .val (.int (0 : Int32)), .val .null, .unset] [(.ref r0)])) rfl (hb hby dE4_9)
    have ne_r0_al2 : r0 ≠ al2 := Fld.ne F_value Vl2 (by simp)
    have ne_r0_bl2 : r0 ≠ bl2 := Exa.neArv E_a Al2 (hw _ (List.mem_of_getElem? (i := 8) rfl))
    refine own_go st2 ?_
    show own_Fin p.tables e below _ (T1.setTop (mkF m 11 #[.val (.ref r0), .val (.ref r1), .val (.int (0 : Int32)), .val (.int (0 : Int32)), .val .null, .unset] [(.ref al2), (.ref r0)]))
    obtain ⟨T8, X8, e8, st8⟩ := getF X1 hx hZ hown (host := "") (Or.inl (hw _ (List.mem_of_getElem? (i := 27) rfl))) Via.refl e1 Vl2 (g := (mkF m 11 #[.val (.ref r0), .val (.ref r1), .val (.int (0 : Int32)), .val (.int (0 : Int32)), .val .null, .unset] [(.ref al2), (.ref r0)])) rfl rfl (hb hby dE4_11)
    refine own_go st8 ?_
    show own_Fin p.tables e below _ (T8.setTop (mkF m 14 #[.val (.ref r0), .val (.ref r1), .val (.int (0 : Int32)), .val (.int (0 : Int32)), .val .null, .unset] [(.ref bl2), (.ref r0)]))
    obtain ⟨T9, h9, X9, e9, W9, st9⟩ := putF X8 hx hZ hown (host := "") (Or.inl (hw _ (List.mem_of_getElem? (i := 27) rfl))) Via.refl e8 F_value E_a (Or.inr ⟨(hw _ (List.mem_of_getElem? (i := 23) rfl)), rfl, hnm⟩) (hw _ (List.mem_of_getElem? (i := 8) rfl)) (ty := (.array .byte)) (by decide) rfl rfl (g := (mkF m 14 #[.val (.ref r0), .val (.ref r1), .val (.int (0 : Int32)), .val (.int (0 : Int32)), .val .null, .unset] [(.ref bl2), (.ref r0)])) rfl rfl (hb hby dE4_14)
    have K9 := K0.wr W9 (Or.inl (List.mem_of_getElem? (i := 0) rfl))
    have N9 := Fr.snoc X9 N0 g_a
    have Er0_9 := E_a.wr W9
    have Fr0_value_9 := F_value.same W9
    have Fr0_coder_9 := F_coder.other W9 (Or.inr (slot_ne (Or.inr (hw _ (List.mem_of_getElem? (i := 24) rfl))) (Or.inr (hw _ (List.mem_of_getElem? (i := 23) rfl))) (by decide) (t := .byte) (t' := (.array .byte)) (by decide) (by decide)))
    have Eal2_9 := El2.wr W9
    have Fal2_coder_9 := Cl2.other W9 (Or.inl (Ne.symm ne_r0_al2))
    have Fal2_value_9 := Vl2.other W9 (Or.inl (Ne.symm ne_r0_al2))
    have Vbl2_9 := Al2.other W9 (Ne.symm ne_r0_bl2)
    refine own_go st9 ?_
    show own_Fin p.tables e below _ (T9.setTop (mkF m 17 #[.val (.ref r0), .val (.ref r1), .val (.int (0 : Int32)), .val (.int (0 : Int32)), .val .null, .unset] []))
    refine own_go (fun _ k => XS.aloadN X9.here hx rfl (hb hby dE4_17) rfl rfl k) ?_
    show own_Fin p.tables e below _ (T9.setTop (mkF m 18 #[.val (.ref r0), .val (.ref r1), .val (.int (0 : Int32)), .val (.int (0 : Int32)), .val .null, .unset] [(.ref r0)]))
    have st10 := ldcAgain X9 hx hZ hown (hw _ (List.mem_of_getElem? (i := 21) rfl)) L2 (g := (mkF m 18 #[.val (.ref r0), .val (.ref r1), .val (.int (0 : Int32)), .val (.int (0 : Int32)), .val .null, .unset] [(.ref r0)])) rfl (hb hby dE4_18)
    refine own_go st10 ?_
    show own_Fin p.tables e below _ (T9.setTop (mkF m 20 #[.val (.ref r0), .val (.ref r1), .val (.int (0 : Int32)), .val (.int (0 : Int32)), .val .null, .unset] [(.ref al2), (.ref r0)]))
    obtain ⟨T11, X11, e11, st11⟩ := getF X9 hx hZ hown (host := "") (Or.inl (hw _ (List.mem_of_getElem? (i := 28) rfl))) Via.refl e9 Fal2_coder_9 (g := (mkF m 20 #[.val (.ref r0), .val (.ref r1), .val (.int (0 : Int32)), .val (.int (0 : Int32)), .val .null, .unset] [(.ref al2), (.ref r0)])) rfl rfl (hb hby dE4_20)
    refine own_go st11 ?_
    show own_Fin p.tables e below _ (T11.setTop (mkF m 23 #[.val (.ref r0), .val (.ref r1), .val (.int (0 : Int32)), .val (.int (0 : Int32)), .val .null, .unset] [(.int (0 : Int32)), (.ref r0)]))
    obtain ⟨T12, h12, X12, e12, W12, st12⟩ := putF X11 hx hZ hown (host := "") (Or.inl (hw _ (List.mem_of_getElem? (i := 28) rfl))) Via.refl e11 Fr0_coder_9 Er0_9 (Or.inr ⟨(hw _ (List.mem_of_getElem? (i := 24) rfl)), rfl, hnm⟩) (hw _ (List.mem_of_getElem? (i := 8) rfl)) (ty := .byte) (by decide) rfl rfl (g := (mkF m 23 #[.val (.ref r0), .val (.ref r1), .val (.int (0 : Int32)), .val (.int (0 : Int32)), .val .null, .unset] [(.int (0 : Int32)), (.ref r0)])) rfl rfl (hb hby dE4_23)
    have K12 := K9.wr W12 (Or.inl (List.mem_of_getElem? (i := 0) rfl))
    have N12 := Fr.snoc X12 N9 g_a
    have Er0_12 := Er0_9.wr W12
    have Fr0_value_12 := Fr0_value_9.other W12 (Or.inr (slot_ne (Or.inr (hw _ (List.mem_of_getElem? (i := 23) rfl))) (Or.inr (hw _ (List.mem_of_getElem? (i := 24) rfl))) (by decide) (t := (.array .byte)) (t' := .byte) (by decide) (by decide)))
    have Fr0_coder_12 := Fr0_coder_9.same W12
    have Eal2_12 := Eal2_9.wr W12
    have Fal2_coder_12 := Fal2_coder_9.other W12 (Or.inl (Ne.symm ne_r0_al2))
    have Fal2_value_12 := Fal2_value_9.other W12 (Or.inl (Ne.symm ne_r0_al2))
    have Vbl2_12 := Vbl2_9.other W12 (Ne.symm ne_r0_bl2)
    refine own_go st12 ?_
    show own_Fin p.tables e below _ (T12.setTop (mkF m 26 #[.val (.ref r0), .val (.ref r1), .val (.int (0 : Int32)), .val (.int (0 : Int32)), .val .null, .unset] []))
    refine own_retVW X12 hx hlk hS0 (Nat.zero_le _) hret (hb hby dE4_26) ?_ (by decide) (by decide)
    show _ ∧ _ ∧ Keep h0 T12.heap _ ∧ own_Str Z T12.heap _ _ _ ∧ own_LO Z _ T12.heap _
    rw [e12]
    have hA : al2 < h12.size := Eal2_12.lt
    have hB : bl2 < h12.size := Vbl2_12.lt
    have hR : r0 < h12.size := Er0_12.lt
    have hL : Lit (Z.setVm T12.vm) "java/lang/String" 7 al2 := Lit.stays (L2 : Lit _ "java/lang/String" 7 _) X12.warmed.wide
    exact ⟨rfl, N12, K12, ⟨Er0_12, own_Chr_nil, hR, bl2, kl2, hB, Fr0_coder_12, Fr0_value_12, Vbl2_12⟩, Or.inr ⟨al2, hL, Eal2_12, own_Chr_nil, hA, bl2, kl2, hB, Fal2_coder_12, Fal2_value_12, Vbl2_12⟩⟩
theorem dE1_0 : decode jdk_42_method_3_code 0 = .ok (.aload_n 0, 1) := by decide +kernel
theorem dE1_1 : decode jdk_42_method_3_code 1 = .ok (.aload_n 1, 1) := by decide +kernel
theorem dE1_2 : decode jdk_42_method_3_code 2 = .ok (.iconst 0, 1) := by decide +kernel
theorem dE1_3 : decode jdk_42_method_3_code 3 = .ok (.aload_n 1, 1) := by decide +kernel
theorem dE1_4 : decode jdk_42_method_3_code 4 = .ok (.arraylength, 1) := by decide +kernel
theorem dE1_5 : decode jdk_42_method_3_code 5 = .ok (.aconst_null, 1) := by decide +kernel
theorem dE1_6 : decode jdk_42_method_3_code 6 = .ok (.invokespecial 27, 3) := by decide +kernel
theorem dE1_9 : decode jdk_42_method_3_code 9 = .ok (.return_, 1) := by decide +kernel
theorem pd1 : parseMethodDescriptor "([C)V" = some ⟨[(.array .char)], none⟩ := by decide +kernel
theorem efE1 (m : MethodId) (r0 : Addr) (r1 : Addr) : entryFrame m #[(.ref r0), (.ref r1)] 2 = mkF m 0 #[.val (.ref r0), .val (.ref r1)] [] := by first | (simp [entryFrame, mkF, argsToLocals, Value.category]; done) | rfl
set_option maxRecDepth 65536 in
set_option maxHeartbeats 40000000 in
theorem rmE1 (l : Launch) (Z : State) (a0 : Array Value) (hw : ∀ d ∈ tables_1, d.before a0 Z = true) (ws : List Jvm.Cond) (r0 : Addr) (r1 : Addr) (u_coder : Value) (h0 : Heap) (n0 : Nat) (Z0 : n0 ≤ h0.size) (E_a : Exa Z h0 r0 "java/lang/String") (F_value : Fld Z h0 r0 "java/lang/String" "value" "[B" .null) (F_coder : Fld Z h0 r0 "java/lang/String" "coder" "B" u_coder) (g_a : n0 ≤ r0) (O0 : Old Z n0 h0) (hheld : Jvm.Lit.constHeld Z "java/lang/String" 7) (hcw : Jvm.Lit.compactW.before a0 Z = true) (k1 : ClassId) (d1 : Value) (V_a : Arv Z h0 r1 k1 .char (0 : Int32) [] d1) :
    own_MetW l (⟨"java/lang/String", "<init>", "([C)V"⟩ : MethodName) jdk_42_method_3_code 2 none ({ frames := 2, cells := 2, slots := 4, locals := 29 } : Room) ws #[(.ref r0), (.ref r1)] Z h0 (fun vm => own_LO Z vm h0 h0.size) 2 4 (fun v h vm L => v = none ∧ Fr n0 L ∧ Keep h0 h [r0] ∧ own_Str Z h r0 [] h.size ∧ own_LO Z vm h h.size) := by
  refine own_metW (plainFor_of_name pn0) ?_
  intro p e s m below meth c s₁ hx hby hml hown hnm hret hlk hZ hh0 e0 LO0 hS0 X0
  have hml : c.maxLocals = 2 := hml
  have N0 := Fr.nil n0
  have K0 := Keep.refl h0 [r0]
  have ne01 : r0 ≠ r1 := Exa.neArv E_a V_a (hw _ (List.mem_of_getElem? (i := 8) rfl))
  refine own_go (fun _ k => castTop (efE1 m r0 r1) k) ?_
  show own_Fin p.tables e below _ (s₁.setTop (mkF m 0 #[.val (.ref r0), .val (.ref r1)] []))
  refine own_go (fun _ k => XS.aloadN X0.here hx rfl (hb hby dE1_0) rfl rfl k) ?_
  show own_Fin p.tables e below _ (s₁.setTop (mkF m 1 #[.val (.ref r0), .val (.ref r1)] [(.ref r0)]))
  refine own_go (fun _ k => XS.aloadN X0.here hx rfl (hb hby dE1_1) rfl rfl k) ?_
  show own_Fin p.tables e below _ (s₁.setTop (mkF m 2 #[.val (.ref r0), .val (.ref r1)] [(.ref r1), (.ref r0)]))
  refine own_go (fun _ k => XT.iconstV X0.here hx rfl (0 : Int32) (hb hby dE1_2) (by decide) k) ?_
  show own_Fin p.tables e below _ (s₁.setTop (mkF m 3 #[.val (.ref r0), .val (.ref r1)] [(.int (0 : Int32)), (.ref r1), (.ref r0)]))
  refine own_go (fun _ k => XS.aloadN X0.here hx rfl (hb hby dE1_3) rfl rfl k) ?_
  show own_Fin p.tables e below _ (s₁.setTop (mkF m 4 #[.val (.ref r0), .val (.ref r1)] [(.ref r1), (.int (0 : Int32)), (.ref r1), (.ref r0)]))
  refine own_go (fun _ k => own_alen X0 hx hZ e0 V_a (g := (mkF m 4 #[.val (.ref r0), .val (.ref r1)] [(.ref r1), (.int (0 : Int32)), (.ref r1), (.ref r0)])) rfl (rest := [(.int (0 : Int32)), (.ref r1), (.ref r0)]) rfl (hb hby dE1_4) k) ?_
  show own_Fin p.tables e below _ (s₁.setTop (mkF m 5 #[.val (.ref r0), .val (.ref r1)] [(.int (0 : Int32)), (.int (0 : Int32)), (.ref r1), (.ref r0)]))
  refine own_go (fun _ k => XS.aconstNull X0.here hx rfl (hb hby dE1_5) k) ?_
  show own_Fin p.tables e below _ (s₁.setTop (mkF m 6 #[.val (.ref r0), .val (.ref r1)] [.null, (.int (0 : Int32)), (.int (0 : Int32)), (.ref r1), (.ref r0)]))
  obtain ⟨_, T1, L1, X1, hZ1, hS1, ho1, ⟨rfl, M1, KK1, S1, LO1⟩, st1⟩ := own_callCW X0 hx hZ hS0 (Nat.zero_le _) hown rfl (hw _ (List.mem_of_getElem? (i := 14) rfl)) (hw _ (List.mem_of_getElem? (i := 15) rfl)) (hw _ (List.mem_of_getElem? (i := 9) rfl)) (hw _ (List.mem_of_getElem? (i := 17) rfl)) (by decide) (W := 0) (rmE4 l Z a0 hw [] r0 r1 u_coder h0 n0 (Nat.le_trans Z0 K0.1) E_a F_value F_coder g_a O0 hheld hcw) (fun vm hv => own_LO.warm (LO0.mono K0.1) hv) (by decide) (by decide) e0 (g := (mkF m 6 #[.val (.ref r0), .val (.ref r1)] [.null, (.int (0 : Int32)), (.int (0 : Int32)), (.ref r1), (.ref r0)])) rfl (by rw [hml]; rfl) (argsL := [(.ref r1), (.int (0 : Int32)), (.int (0 : Int32)), .null]) (rest := []) rfl (lenOf pd0 rfl) rfl (by show 2 * 0 + _ ≤ _; exact Nat.le_of_eq rfl) (hb hby dE1_6) (by decide) (by decide)
  have N1 := Fr.app N0 M1
  have Er0_1 := E_a.keep KK1
  have Vr1_1 := V_a.keep KK1 (ninS (Ne.symm ne01) nin0)
  have O_1 := O0.keep KK1 (allS g_a all0)
  have K1 := K0.trans KK1 (allS (Or.inl (List.mem_of_getElem? (i := 0) rfl)) all0)
  refine own_go st1 ?_
  show own_Fin p.tables e below _ (T1.setTop (mkF m 9 #[.val (.ref r0), .val (.ref r1)] []))
  refine own_retVW X1 hx hlk hS1 (Nat.le_refl _) hret (hb hby dE1_9) ?_ (by decide) (by decide)
  exact ⟨rfl, N1, K1, S1, (own_LO.warm (LO1.mono (Nat.le_refl _)) X1.warmed)⟩
theorem pd2 : parseMethodDescriptor "(Ljava/lang/Object;)Z" = some ⟨[(.object "java/lang/Object")], some .boolean⟩ := by decide +kernel
theorem own_narc (c : Int32) (h : ¬ c < 0 ∧ ¬ (255 : Int32) < c) : nar .char c = c := by
  have h1 : 0 ≤ c.toInt := by have := h.1; rw [XT.negI32] at this; omega
  have h2 : c.toInt ≤ 255 := by
    have := h.2; rw [Int32.lt_iff_toInt_lt] at this
    have h5 : (255 : Int32).toInt = 255 := by decide
    omega
  show c.toUInt32.toUInt16.toUInt32.toInt32 = c
  apply Int32.toInt_inj.mp
  have hb : c.toInt = (c.toBitVec.toNat : Int).bmod (2 ^ 32) := BitVec.toInt_eq_toNat_bmod c.toBitVec
  have hn := c.toBitVec.isLt
  have e1 : c.toBitVec.toNat < 256 := by
    rw [hb, Int.bmod_def] at h1 h2
    split at h1 <;> omega
  have e2 : (c.toUInt32.toUInt16.toUInt32.toInt32).toBitVec.toNat = c.toBitVec.toNat % 65536 := rfl
  have hb2 : (c.toUInt32.toUInt16.toUInt32.toInt32).toInt = (((c.toUInt32.toUInt16.toUInt32.toInt32).toBitVec.toNat : Nat) : Int).bmod (2 ^ 32) := BitVec.toInt_eq_toNat_bmod _
  rw [hb2, hb, e2, Nat.mod_eq_of_lt (by omega)]
theorem own_b255 (i : Int32) : ¬ (i &&& (255 : Int32)) < 0 ∧ ¬ (255 : Int32) < (i &&& 255) := by
  rw [XT.negI32, Int32.lt_iff_toInt_lt]
  have hm : (i &&& 255).toInt = i.toInt % (2 ^ 8 : Nat) := c_mask i 255 8 (by decide) (by decide)
  have h5 : (255 : Int32).toInt = 255 := by decide
  rw [h5, hm]; omega
theorem own_i2c (i : Int32) : (i &&& (255 : Int32)).toUInt32.toUInt16.toUInt32.toInt32 = i &&& 255 := own_narc _ (own_b255 i)
theorem own_up {cs : List Int32} (h : ∀ c ∈ cs, ¬ c < 0 ∧ ¬ (255 : Int32) < c) : ∀ c ∈ cs, ¬ c < 0 ∧ ¬ (65535 : Int32) < c := fun c hc => by
  refine ⟨(h c hc).1, fun q => (h c hc).2 ?_⟩
  rw [Int32.lt_iff_toInt_lt] at *
  have h1 : (65535 : Int32).toInt = 65535 := by decide
  have h2 : (255 : Int32).toInt = 255 := by decide
  omega
def own_cs (l c0 c1 : Int32) : List Int32 := if l = 0 then [] else if l = 1 then [c0] else [c0, c1]
theorem d2_0 : decode method_2_code 0 = .ok (.iload_n 0, 1) := by decide +kernel
theorem d2_1 : decode method_2_code 1 = .ok (.ifCond .ne 14, 3) := by decide +kernel
theorem d2_4 : decode method_2_code 4 = .ok (.new 7, 3) := by decide +kernel
theorem d2_7 : decode method_2_code 7 = .ok (.dup, 1) := by decide +kernel
theorem d2_8 : decode method_2_code 8 = .ok (.iconst 0, 1) := by decide +kernel
theorem d2_9 : decode method_2_code 9 = .ok (.newarray .char, 2) := by decide +kernel
theorem d2_11 : decode method_2_code 11 = .ok (.invokespecial 9, 3) := by decide +kernel
theorem d2_14 : decode method_2_code 14 = .ok (.areturn, 1) := by decide +kernel
theorem d2_15 : decode method_2_code 15 = .ok (.iload_n 0, 1) := by decide +kernel
theorem d2_16 : decode method_2_code 16 = .ok (.iconst 1, 1) := by decide +kernel
theorem d2_17 : decode method_2_code 17 = .ok (.if_icmp .ne 18, 3) := by decide +kernel
theorem d2_20 : decode method_2_code 20 = .ok (.new 7, 3) := by decide +kernel
theorem d2_23 : decode method_2_code 23 = .ok (.dup, 1) := by decide +kernel
theorem d2_24 : decode method_2_code 24 = .ok (.iconst 1, 1) := by decide +kernel
theorem d2_25 : decode method_2_code 25 = .ok (.newarray .char, 2) := by decide +kernel
theorem d2_27 : decode method_2_code 27 = .ok (.dup, 1) := by decide +kernel
theorem d2_28 : decode method_2_code 28 = .ok (.iconst 0, 1) := by decide +kernel
theorem d2_29 : decode method_2_code 29 = .ok (.iload_n 1, 1) := by decide +kernel
theorem d2_30 : decode method_2_code 30 = .ok (.castore, 1) := by decide +kernel
theorem d2_31 : decode method_2_code 31 = .ok (.invokespecial 9, 3) := by decide +kernel
theorem d2_34 : decode method_2_code 34 = .ok (.areturn, 1) := by decide +kernel
theorem d2_35 : decode method_2_code 35 = .ok (.new 7, 3) := by decide +kernel
theorem d2_38 : decode method_2_code 38 = .ok (.dup, 1) := by decide +kernel
theorem d2_39 : decode method_2_code 39 = .ok (.iconst 2, 1) := by decide +kernel
theorem d2_40 : decode method_2_code 40 = .ok (.newarray .char, 2) := by decide +kernel
theorem d2_42 : decode method_2_code 42 = .ok (.dup, 1) := by decide +kernel
theorem d2_43 : decode method_2_code 43 = .ok (.iconst 0, 1) := by decide +kernel
theorem d2_44 : decode method_2_code 44 = .ok (.iload_n 1, 1) := by decide +kernel
theorem d2_45 : decode method_2_code 45 = .ok (.castore, 1) := by decide +kernel
theorem d2_46 : decode method_2_code 46 = .ok (.dup, 1) := by decide +kernel
theorem d2_47 : decode method_2_code 47 = .ok (.iconst 1, 1) := by decide +kernel
theorem d2_48 : decode method_2_code 48 = .ok (.iload_n 2, 1) := by decide +kernel
theorem d2_49 : decode method_2_code 49 = .ok (.castore, 1) := by decide +kernel
theorem d2_50 : decode method_2_code 50 = .ok (.invokespecial 9, 3) := by decide +kernel
theorem d2_53 : decode method_2_code 53 = .ok (.areturn, 1) := by decide +kernel
theorem pn1 : plainName "com/example/grantline/grantline/eval/ComparablePrincipalIsSameAsPinLaw" = true := by first | (simp [plainName, overriddenIn]; done) | decide +kernel
theorem pd3 : parseMethodDescriptor "(ICC)Ljava/lang/String;" = some ⟨[.int, .char, .char], some (.object "java/lang/String")⟩ := by decide +kernel
theorem ef2 (m : MethodId) (i1 : Int32) (i2 : Int32) (i3 : Int32) : entryFrame m #[(.int i1), (.int i2), (.int i3)] 3 = mkF m 0 #[.val (.int i1), .val (.int i2), .val (.int i3)] [] := by first | (simp [entryFrame, mkF, argsToLocals, Value.category]; done) | rfl
set_option maxRecDepth 65536 in
set_option maxHeartbeats 40000000 in
theorem rm2 (l : Launch) (Z : State) (a0 : Array Value) (hw : ∀ d ∈ tables_1, d.before a0 Z = true) (ws : List Jvm.Cond) (i1 : Int32) (i2 : Int32) (i3 : Int32)  (h0 : Heap) (n0 : Nat) (Z0 : n0 ≤ h0.size) (ic : Int32) (SC : Sta Z Z.heap "java/lang/String" "COMPACT_STRINGS" "Z" (.int ic)) (hz : ¬ ic = 0) (O0 : Old Z n0 h0) (hheld : Jvm.Lit.constHeld Z "java/lang/String" 7) (hcw : Jvm.Lit.compactW.before a0 Z = true) (hb2 : ¬ i2 < 0 ∧ ¬ (255 : Int32) < i2) (hb3 : ¬ i3 < 0 ∧ ¬ (255 : Int32) < i3) :
    own_MetW l (⟨"com/example/grantline/grantline/eval/ComparablePrincipalIsSameAsPinLaw", "mk", "(ICC)Ljava/lang/String;"⟩ : MethodName) method_2_code 3 (some (.object "java/lang/String")) ({ frames := 4, cells := 4, slots := 8, locals := 66 } : Room) ws #[(.int i1), (.int i2), (.int i3)] Z h0 (fun vm => own_LO Z vm h0 h0.size) 4 8 (fun v h vm L => ∃ a, v = some (.ref a) ∧ Fr n0 L ∧ Keep h0 h [] ∧ h0.size ≤ a ∧ own_Str Z h a (own_cs i1 i2 i3) h.size ∧ own_LO Z vm h h.size) := by
  refine own_metW (plainFor_of_name pn1) ?_
  intro p e s m below meth c s₁ hx hby hml hown hnm hret hlk hZ hh0 e0 LO0 hS0 X0
  have hml : c.maxLocals = 3 := hml
  have N0 := Fr.nil n0
  have K0 := Keep.refl h0 []
  have hws : ∀ d ∈ StrChars.Road.words, d.before a0 Z = true := fun d hd => hw d ((by decide +kernel : ∀ d ∈ StrChars.Road.words, d ∈ tables_1) d hd)
  refine own_go (fun _ k => castTop (ef2 m i1 i2 i3) k) ?_
  show own_Fin p.tables e below _ (s₁.setTop (mkF m 0 #[.val (.int i1), .val (.int i2), .val (.int i3)] []))
  refine own_go (fun _ k => XS.iloadN X0.here hx rfl (hb hby d2_0) rfl k) ?_
  show own_Fin p.tables e below _ (s₁.setTop (mkF m 1 #[.val (.int i1), .val (.int i2), .val (.int i3)] [(.int i1)]))
  by_cases hc1 : i1 = (0 : Int32)
  · refine own_go (fun _ k => XS.ifNo X0.here hx rfl (hb hby d2_1) rfl (XT.i0_ne_f hc1) k) ?_
    show own_Fin p.tables e below _ (s₁.setTop (mkF m 4 #[.val (.int i1), .val (.int i2), .val (.int i3)] []))
    obtain ⟨T2, h2, X2, e2, E2, A2, D2, -, st2⟩ := newO X0 hx hZ hown (hw _ (List.mem_of_getElem? (i := 7) rfl)) (hw _ (List.mem_of_getElem? (i := 8) rfl)) (hw _ (List.mem_of_getElem? (i := 9) rfl)) e0 (g := (mkF m 4 #[.val (.int i1), .val (.int i2), .val (.int i3)] [])) rfl (hb hby d2_4) (by decide) (by decide)
    obtain ⟨a2, g2⟩ : ∃ z, z = h0.size := ⟨_, rfl⟩
    rw [← g2] at A2 D2 st2
    have q2 : h0.size ≤ a2 := Nat.le_trans K0.1 (Nat.le_of_eq g2.symm)
    have z2 : n0 ≤ a2 := Nat.le_trans Z0 q2
    have LO_2 := LO0.ext E2
    have O_2 := O0.ext E2
    have K2 := K0.ext E2
    have Fa2_value : Fld Z h2 a2 "java/lang/String" "value" "[B" .null := D2 (Or.inr (hw _ (List.mem_of_getElem? (i := 23) rfl))) (ty := (.array .byte)) (by decide)
    have Fa2_coder : Fld Z h2 a2 "java/lang/String" "coder" "B" (.int (0 : Int32)) := D2 (Or.inr (hw _ (List.mem_of_getElem? (i := 24) rfl))) (ty := .byte) (by decide)
    refine own_go st2 ?_
    show own_Fin p.tables e below _ (T2.setTop (mkF m 7 #[.val (.int i1), .val (.int i2), .val (.int i3)] [(.ref a2)]))
    refine own_go (fun _ k => XS.dup X2.here hx rfl (hb hby d2_7) rfl rfl k) ?_
    show own_Fin p.tables e below _ (T2.setTop (mkF m 8 #[.val (.int i1), .val (.int i2), .val (.int i3)] [(.ref a2), (.ref a2)]))
    refine own_go (fun _ k => XT.iconstV X2.here hx rfl (0 : Int32) (hb hby d2_8) (by decide) k) ?_
    show own_Fin p.tables e below _ (T2.setTop (mkF m 9 #[.val (.int i1), .val (.int i2), .val (.int i3)] [(.int (0 : Int32)), (.ref a2), (.ref a2)]))
    obtain ⟨T3, h3, k3, X3, e3, E3, A3, st3⟩ := newP X2 hx hZ (hw _ (List.mem_of_getElem? (i := 10) rfl)) e2 (g := (mkF m 9 #[.val (.int i1), .val (.int i2), .val (.int i3)] [(.int (0 : Int32)), (.ref a2), (.ref a2)])) rfl (hb hby d2_9) rfl (by decide) (cap := 0) (by decide) (by decide) (by decide) (by decide)
    obtain ⟨a3, g3⟩ : ∃ z, z = h2.size := ⟨_, rfl⟩
    rw [← g3] at A3 st3
    have q3 : h0.size ≤ a3 := Nat.le_trans K2.1 (Nat.le_of_eq g3.symm)
    have z3 : n0 ≤ a3 := Nat.le_trans Z0 q3
    have ne_a2_a3 : a2 ≠ a3 := fun q => absurd (q ▸ A2.lt) (by rw [g3]; exact Nat.lt_irrefl _)
    have LO_3 := LO_2.ext E3
    have O_3 := O_2.ext E3
    have Ea2_3 := A2.ext E3
    have Fa2_value_3 := Fa2_value.ext E3
    have Fa2_coder_3 := Fa2_coder.ext E3
    have K3 := K2.ext E3
    have Va3 : Arv Z h3 a3 k3 .char (0 : Int32) [] (.int (0 : Int32)) := (Arv.new A3 (by decide)).pad (pad_rep [] (.int (0 : Int32)) 0)
    refine own_go st3 ?_
    show own_Fin p.tables e below _ (T3.setTop (mkF m 11 #[.val (.int i1), .val (.int i2), .val (.int i3)] [(.ref a3), (.ref a2), (.ref a2)]))
    obtain ⟨_, T4, L4, X4, hZ4, hS4, ho4, ⟨rfl, M4, KK4, S4, LO4⟩, st4⟩ := own_callCW X3 hx hZ hS0 (Nat.zero_le _) hown rfl (hw _ (List.mem_of_getElem? (i := 11) rfl)) (hw _ (List.mem_of_getElem? (i := 12) rfl)) (hw _ (List.mem_of_getElem? (i := 9) rfl)) (hw _ (List.mem_of_getElem? (i := 13) rfl)) (by decide) (W := 1) (rmE1 l Z a0 hw [] a2 a3 (.int (0 : Int32)) h3 n0 (Nat.le_trans Z0 K3.1) Ea2_3 Fa2_value_3 Fa2_coder_3 z2 O_3 hheld hcw k3 (.int (0 : Int32)) Va3) (fun vm hv => own_LO.warm (LO_3.mono K3.1) hv) (by decide) (by decide) e3 (g := (mkF m 11 #[.val (.int i1), .val (.int i2), .val (.int i3)] [(.ref a3), (.ref a2), (.ref a2)])) rfl (by rw [hml]; rfl) (argsL := [(.ref a3)]) (rest := [(.ref a2)]) rfl (lenOf pd1 rfl) rfl (by show 2 * 0 + _ ≤ _; exact Nat.le_of_eq rfl) (hb hby d2_11) (by decide) (by decide)
    have N4 := Fr.app N0 M4
    have O_4 := O_3.keep KK4 (allS z2 all0)
    have Ea2_4 := Ea2_3.keep KK4
    have Va3_4 := Va3.keep KK4 (ninS (Ne.symm ne_a2_a3) nin0)
    have K4 := K3.trans KK4 (allS (Or.inr q2) all0)
    refine own_go st4 ?_
    show own_Fin p.tables e below _ (T4.setTop (mkF m 14 #[.val (.int i1), .val (.int i2), .val (.int i3)] [(.ref a2)]))
    refine own_retAW X4 hx hlk hS4 (Nat.le_refl _) hret rfl rfl (hb hby d2_14) ?_ (by decide) (by decide)
    have hcs : own_cs i1 i2 i3 = ([] : List Int32) := by simp only [own_cs, if_pos hc1]
    exact ⟨a2, rfl, N4, K4, q2, hcs ▸ S4, (own_LO.warm (LO4.mono (Nat.le_refl _)) X4.warmed)⟩
  · refine own_go (fun _ k => XS.ifYes X0.here hx rfl (pc0 := 1) (pc' := 15) rfl (hb hby d2_1) rfl (XT.i0_ne_t hc1) (by decide) (by decide) k) ?_
    show own_Fin p.tables e below _ (s₁.setTop (mkF m 15 #[.val (.int i1), .val (.int i2), .val (.int i3)] []))
    refine own_go (fun _ k => XS.iloadN X0.here hx rfl (hb hby d2_15) rfl k) ?_
    show own_Fin p.tables e below _ (s₁.setTop (mkF m 16 #[.val (.int i1), .val (.int i2), .val (.int i3)] [(.int i1)]))
    refine own_go (fun _ k => XT.iconstV X0.here hx rfl (1 : Int32) (hb hby d2_16) (by decide) k) ?_
    show own_Fin p.tables e below _ (s₁.setTop (mkF m 17 #[.val (.int i1), .val (.int i2), .val (.int i3)] [(.int (1 : Int32)), (.int i1)]))
    by_cases hc5 : i1 = (1 : Int32)
    · refine own_go (fun _ k => XS.icmpNo X0.here hx rfl (hb hby d2_17) rfl (XT.ii_ne_f hc5) k) ?_
      show own_Fin p.tables e below _ (s₁.setTop (mkF m 20 #[.val (.int i1), .val (.int i2), .val (.int i3)] []))
      obtain ⟨T6, h6, X6, e6, E6, A6, D6, -, st6⟩ := newO X0 hx hZ hown (hw _ (List.mem_of_getElem? (i := 7) rfl)) (hw _ (List.mem_of_getElem? (i := 8) rfl)) (hw _ (List.mem_of_getElem? (i := 9) rfl)) e0 (g := (mkF m 20 #[.val (.int i1), .val (.int i2), .val (.int i3)] [])) rfl (hb hby d2_20) (by decide) (by decide)
      obtain ⟨a6, g6⟩ : ∃ z, z = h0.size := ⟨_, rfl⟩
      rw [← g6] at A6 D6 st6
      have q6 : h0.size ≤ a6 := Nat.le_trans K0.1 (Nat.le_of_eq g6.symm)
      have z6 : n0 ≤ a6 := Nat.le_trans Z0 q6
      have LO_6 := LO0.ext E6
      have O_6 := O0.ext E6
      have K6 := K0.ext E6
      have Fa6_value : Fld Z h6 a6 "java/lang/String" "value" "[B" .null := D6 (Or.inr (hw _ (List.mem_of_getElem? (i := 23) rfl))) (ty := (.array .byte)) (by decide)
      have Fa6_coder : Fld Z h6 a6 "java/lang/String" "coder" "B" (.int (0 : Int32)) := D6 (Or.inr (hw _ (List.mem_of_getElem? (i := 24) rfl))) (ty := .byte) (by decide)
      refine own_go st6 ?_
      show own_Fin p.tables e below _ (T6.setTop (mkF m 23 #[.val (.int i1), .val (.int i2), .val (.int i3)] [(.ref a6)]))
      refine own_go (fun _ k => XS.dup X6.here hx rfl (hb hby d2_23) rfl rfl k) ?_
      show own_Fin p.tables e below _ (T6.setTop (mkF m 24 #[.val (.int i1), .val (.int i2), .val (.int i3)] [(.ref a6), (.ref a6)]))
      refine own_go (fun _ k => XT.iconstV X6.here hx rfl (1 : Int32) (hb hby d2_24) (by decide) k) ?_
      show own_Fin p.tables e below _ (T6.setTop (mkF m 25 #[.val (.int i1), .val (.int i2), .val (.int i3)] [(.int (1 : Int32)), (.ref a6), (.ref a6)]))
      obtain ⟨T7, h7, k7, X7, e7, E7, A7, st7⟩ := newP X6 hx hZ (hw _ (List.mem_of_getElem? (i := 10) rfl)) e6 (g := (mkF m 25 #[.val (.int i1), .val (.int i2), .val (.int i3)] [(.int (1 : Int32)), (.ref a6), (.ref a6)])) rfl (hb hby d2_25) rfl (by decide) (cap := 1) (by decide) (by decide) (by decide) (by decide)
      obtain ⟨a7, g7⟩ : ∃ z, z = h6.size := ⟨_, rfl⟩
      rw [← g7] at A7 st7
      have q7 : h0.size ≤ a7 := Nat.le_trans K6.1 (Nat.le_of_eq g7.symm)
      have z7 : n0 ≤ a7 := Nat.le_trans Z0 q7
      have ne_a6_a7 : a6 ≠ a7 := fun q => absurd (q ▸ A6.lt) (by rw [g7]; exact Nat.lt_irrefl _)
      have LO_7 := LO_6.ext E7
      have O_7 := O_6.ext E7
      have Ea6_7 := A6.ext E7
      have Fa6_value_7 := Fa6_value.ext E7
      have Fa6_coder_7 := Fa6_coder.ext E7
      have K7 := K6.ext E7
      have Va7 : Arv Z h7 a7 k7 .char (1 : Int32) [(.int (0 : Int32))] (.int (0 : Int32)) := (Arv.new A7 (by decide)).pad (pad_rep [] (.int (0 : Int32)) 1)
      refine own_go st7 ?_
      show own_Fin p.tables e below _ (T7.setTop (mkF m 27 #[.val (.int i1), .val (.int i2), .val (.int i3)] [(.ref a7), (.ref a6), (.ref a6)]))
      refine own_go (fun _ k => XS.dup X7.here hx rfl (hb hby d2_27) rfl rfl k) ?_
      show own_Fin p.tables e below _ (T7.setTop (mkF m 28 #[.val (.int i1), .val (.int i2), .val (.int i3)] [(.ref a7), (.ref a7), (.ref a6), (.ref a6)]))
      refine own_go (fun _ k => XT.iconstV X7.here hx rfl (0 : Int32) (hb hby d2_28) (by decide) k) ?_
      show own_Fin p.tables e below _ (T7.setTop (mkF m 29 #[.val (.int i1), .val (.int i2), .val (.int i3)] [(.int (0 : Int32)), (.ref a7), (.ref a7), (.ref a6), (.ref a6)]))
      refine own_go (fun _ k => XS.iloadN X7.here hx rfl (hb hby d2_29) rfl k) ?_
      show own_Fin p.tables e below _ (T7.setTop (mkF m 30 #[.val (.int i1), .val (.int i2), .val (.int i3)] [(.int i2), (.int (0 : Int32)), (.ref a7), (.ref a7), (.ref a6), (.ref a6)]))
      obtain ⟨c8, Ar8, q8, S8, M8, H8, U8⟩ := id Va7
      obtain ⟨T8, h8, X8, e8, W8, st8⟩ := stC X7 hx hZ e7 Ar8 (j := (0 : Int32)) (inb_of S8 ⟨(by decide), (by decide)⟩) (g := (mkF m 30 #[.val (.int i1), .val (.int i2), .val (.int i3)] [(.int i2), (.int (0 : Int32)), (.ref a7), (.ref a7), (.ref a6), (.ref a6)])) rfl rfl (hb hby d2_30)
      have K8 := K7.wr W8 (Or.inr q7)
      have N8 := Fr.snoc X8 N0 z7
      have LO_8 := LO_7.keepB (Keep.of_wr W8) q7
      have O_8 := O_7.wr W8 z7
      have Ea6_8 := Ea6_7.wr W8
      have Fa6_value_8 := Fa6_value_7.other W8 (Or.inl ne_a6_a7)
      have Fa6_coder_8 := Fa6_coder_7.other W8 (Or.inl ne_a6_a7)
      have Va7_8 : Arv Z h8 a7 k7 .char (1 : Int32) [(.int (nar .char i2))] (.int (0 : Int32)) := Arv.set Ar8 q8 S8 M8 H8 U8 (fits_nar_char _) W8 0 rfl (Nat.le_of_ble_eq_true rfl)
      refine own_go st8 ?_
      show own_Fin p.tables e below _ (T8.setTop (mkF m 31 #[.val (.int i1), .val (.int i2), .val (.int i3)] [(.ref a7), (.ref a6), (.ref a6)]))
      have hp9 : ∀ c ∈ ([(nar .char i2)] : List Int32), ¬ c < 0 ∧ ¬ (255 : Int32) < c := fun c hc => by rw [List.mem_singleton.mp hc, own_narc _ hb2]; exact hb2
      obtain ⟨_, T9, L9, X9, ⟨rfl, M9, KK9, -, Gc9, t9, kb9, zt9, qt9, nt9, Gv9, Ga9⟩, st9⟩ := own_callCB X8 hx hZ hown rfl (hw _ (List.mem_of_getElem? (i := 11) rfl)) (hw _ (List.mem_of_getElem? (i := 12) rfl)) (hw _ (List.mem_of_getElem? (i := 13) rfl)) (by decide) (W := 1) (StrChars.Road.backV (W := 1) hZ hws (kI := 4) (hw _ (List.mem_of_getElem? (i := 8) rfl)) (cs := ([(nar .char i2)] : List Int32)) (bs := ([(nar .char i2)] : List Int32).map (fun c => c.toInt8.toInt32)) (n := 1) z6 (Nat.le_trans Z0 K8.1) Ea6_8 Fa6_value_8 Fa6_coder_8 Va7_8 (SC.ext O_8.2) hz rfl rfl (by decide) (by decide) hp9 rfl (by decide) (by decide)) e8 (g := (mkF m 31 #[.val (.int i1), .val (.int i2), .val (.int i3)] [(.ref a7), (.ref a6), (.ref a6)])) rfl (by rw [hml]; rfl) (argsL := [.ref a7]) (rest := [(.ref a6)]) rfl (lenOf pd1 rfl) rfl (by show 2 * 0 + _ ≤ _; exact Nat.le_of_eq rfl) (hb hby d2_31) (by decide) (by decide)
      have N9 := Fr.app N8 M9
      have LO_9 := LO_8.keepB KK9 q6
      have O_9 := O_8.keep KK9 (allS z6 all0)
      have Ea6_9 := Ea6_8.keep KK9
      have Va7_9 := Va7_8.keep KK9 (ninS (Ne.symm ne_a6_a7) nin0)
      have K9 := K8.trans KK9 (allS (Or.inr q6) all0)
      have S9 : own_Str Z T9.heap a6 ([(nar .char i2)] : List Int32) T9.heap.size := ⟨Ea6_9, ⟨hp9, Nat.le_of_ble_eq_true rfl⟩, Ea6_9.lt, t9, kb9, Ga9.lt, Gc9, Gv9, Ga9⟩
      refine own_go st9 ?_
      show own_Fin p.tables e below _ (T9.setTop (mkF m 34 #[.val (.int i1), .val (.int i2), .val (.int i3)] [(.ref a6)]))
      refine own_retAW X9 hx hlk hS0 (Nat.zero_le _) hret rfl rfl (hb hby d2_34) ?_ (by decide) (by decide)
      have hcs : own_cs i1 i2 i3 = ([(nar .char i2)] : List Int32) := by simp only [own_cs, if_neg hc1, if_pos hc5, own_narc _ hb2]
      exact ⟨a6, rfl, N9, K9, q6, hcs ▸ S9, (own_LO.warm (LO_9.mono K9.1) X9.warmed)⟩
    · refine own_go (fun _ k => XS.icmpYes X0.here hx rfl (pc0 := 17) (pc' := 35) rfl (hb hby d2_17) rfl (XT.ii_ne_t hc5) (by decide) (by decide) k) ?_
      show own_Fin p.tables e below _ (s₁.setTop (mkF m 35 #[.val (.int i1), .val (.int i2), .val (.int i3)] []))
      obtain ⟨T10, h10, X10, e10, E10, A10, D10, -, st10⟩ := newO X0 hx hZ hown (hw _ (List.mem_of_getElem? (i := 7) rfl)) (hw _ (List.mem_of_getElem? (i := 8) rfl)) (hw _ (List.mem_of_getElem? (i := 9) rfl)) e0 (g := (mkF m 35 #[.val (.int i1), .val (.int i2), .val (.int i3)] [])) rfl (hb hby d2_35) (by decide) (by decide)
      obtain ⟨a10, g10⟩ : ∃ z, z = h0.size := ⟨_, rfl⟩
      rw [← g10] at A10 D10 st10
      have q10 : h0.size ≤ a10 := Nat.le_trans K0.1 (Nat.le_of_eq g10.symm)
      have z10 : n0 ≤ a10 := Nat.le_trans Z0 q10
      have LO_10 := LO0.ext E10
      have O_10 := O0.ext E10
      have K10 := K0.ext E10
      have Fa10_value : Fld Z h10 a10 "java/lang/String" "value" "[B" .null := D10 (Or.inr (hw _ (List.mem_of_getElem? (i := 23) rfl))) (ty := (.array .byte)) (by decide)
      have Fa10_coder : Fld Z h10 a10 "java/lang/String" "coder" "B" (.int (0 : Int32)) := D10 (Or.inr (hw _ (List.mem_of_getElem? (i := 24) rfl))) (ty := .byte) (by decide)
      refine own_go st10 ?_
      show own_Fin p.tables e below _ (T10.setTop (mkF m 38 #[.val (.int i1), .val (.int i2), .val (.int i3)] [(.ref a10)]))
      refine own_go (fun _ k => XS.dup X10.here hx rfl (hb hby d2_38) rfl rfl k) ?_
      show own_Fin p.tables e below _ (T10.setTop (mkF m 39 #[.val (.int i1), .val (.int i2), .val (.int i3)] [(.ref a10), (.ref a10)]))
      refine own_go (fun _ k => XT.iconstV X10.here hx rfl (2 : Int32) (hb hby d2_39) (by decide) k) ?_
      show own_Fin p.tables e below _ (T10.setTop (mkF m 40 #[.val (.int i1), .val (.int i2), .val (.int i3)] [(.int (2 : Int32)), (.ref a10), (.ref a10)]))
      obtain ⟨T11, h11, k11, X11, e11, E11, A11, st11⟩ := newP X10 hx hZ (hw _ (List.mem_of_getElem? (i := 10) rfl)) e10 (g := (mkF m 40 #[.val (.int i1), .val (.int i2), .val (.int i3)] [(.int (2 : Int32)), (.ref a10), (.ref a10)])) rfl (hb hby d2_40) rfl (by decide) (cap := 2) (by decide) (by decide) (by decide) (by decide)
      obtain ⟨a11, g11⟩ : ∃ z, z = h10.size := ⟨_, rfl⟩
      rw [← g11] at A11 st11
      have q11 : h0.size ≤ a11 := Nat.le_trans K10.1 (Nat.le_of_eq g11.symm)
      have z11 : n0 ≤ a11 := Nat.le_trans Z0 q11
      have ne_a10_a11 : a10 ≠ a11 := fun q => absurd (q ▸ A10.lt) (by rw [g11]; exact Nat.lt_irrefl _)
      have LO_11 := LO_10.ext E11
      have O_11 := O_10.ext E11
      have Ea10_11 := A10.ext E11
      have Fa10_value_11 := Fa10_value.ext E11
      have Fa10_coder_11 := Fa10_coder.ext E11
      have K11 := K10.ext E11
      have Va11 : Arv Z h11 a11 k11 .char (2 : Int32) [(.int (0 : Int32)), (.int (0 : Int32))] (.int (0 : Int32)) := (Arv.new A11 (by decide)).pad (pad_rep [] (.int (0 : Int32)) 2)
      refine own_go st11 ?_
      show own_Fin p.tables e below _ (T11.setTop (mkF m 42 #[.val (.int i1), .val (.int i2), .val (.int i3)] [(.ref a11), (.ref a10), (.ref a10)]))
      refine own_go (fun _ k => XS.dup X11.here hx rfl (hb hby d2_42) rfl rfl k) ?_
      show own_Fin p.tables e below _ (T11.setTop (mkF m 43 #[.val (.int i1), .val (.int i2), .val (.int i3)] [(.ref a11), (.ref a11), (.ref a10), (.ref a10)]))
      refine own_go (fun _ k => XT.iconstV X11.here hx rfl (0 : Int32) (hb hby d2_43) (by decide) k) ?_
      show own_Fin p.tables e below _ (T11.setTop (mkF m 44 #[.val (.int i1), .val (.int i2), .val (.int i3)] [(.int (0 : Int32)), (.ref a11), (.ref a11), (.ref a10), (.ref a10)]))
      refine own_go (fun _ k => XS.iloadN X11.here hx rfl (hb hby d2_44) rfl k) ?_
      show own_Fin p.tables e below _ (T11.setTop (mkF m 45 #[.val (.int i1), .val (.int i2), .val (.int i3)] [(.int i2), (.int (0 : Int32)), (.ref a11), (.ref a11), (.ref a10), (.ref a10)]))
      obtain ⟨c12, Ar12, q12, S12, M12, H12, U12⟩ := id Va11
      obtain ⟨T12, h12, X12, e12, W12, st12⟩ := stC X11 hx hZ e11 Ar12 (j := (0 : Int32)) (inb_of S12 ⟨(by decide), (by decide)⟩) (g := (mkF m 45 #[.val (.int i1), .val (.int i2), .val (.int i3)] [(.int i2), (.int (0 : Int32)), (.ref a11), (.ref a11), (.ref a10), (.ref a10)])) rfl rfl (hb hby d2_45)
      have K12 := K11.wr W12 (Or.inr q11)
      have N12 := Fr.snoc X12 N0 z11
      have LO_12 := LO_11.keepB (Keep.of_wr W12) q11
      have O_12 := O_11.wr W12 z11
      have Ea10_12 := Ea10_11.wr W12
      have Fa10_value_12 := Fa10_value_11.other W12 (Or.inl ne_a10_a11)
      have Fa10_coder_12 := Fa10_coder_11.other W12 (Or.inl ne_a10_a11)
      have Va11_12 : Arv Z h12 a11 k11 .char (2 : Int32) [(.int (nar .char i2)), (.int (0 : Int32))] (.int (0 : Int32)) := Arv.set Ar12 q12 S12 M12 H12 U12 (fits_nar_char _) W12 0 rfl (Nat.le_of_ble_eq_true rfl)
      refine own_go st12 ?_
      show own_Fin p.tables e below _ (T12.setTop (mkF m 46 #[.val (.int i1), .val (.int i2), .val (.int i3)] [(.ref a11), (.ref a10), (.ref a10)]))
      refine own_go (fun _ k => XS.dup X12.here hx rfl (hb hby d2_46) rfl rfl k) ?_
      show own_Fin p.tables e below _ (T12.setTop (mkF m 47 #[.val (.int i1), .val (.int i2), .val (.int i3)] [(.ref a11), (.ref a11), (.ref a10), (.ref a10)]))
      refine own_go (fun _ k => XT.iconstV X12.here hx rfl (1 : Int32) (hb hby d2_47) (by decide) k) ?_
      show own_Fin p.tables e below _ (T12.setTop (mkF m 48 #[.val (.int i1), .val (.int i2), .val (.int i3)] [(.int (1 : Int32)), (.ref a11), (.ref a11), (.ref a10), (.ref a10)]))
      refine own_go (fun _ k => XS.iloadN X12.here hx rfl (hb hby d2_48) rfl k) ?_
      show own_Fin p.tables e below _ (T12.setTop (mkF m 49 #[.val (.int i1), .val (.int i2), .val (.int i3)] [(.int i3), (.int (1 : Int32)), (.ref a11), (.ref a11), (.ref a10), (.ref a10)]))
      obtain ⟨c13, Ar13, q13, S13, M13, H13, U13⟩ := id Va11_12
      obtain ⟨T13, h13, X13, e13, W13, st13⟩ := stC X12 hx hZ e12 Ar13 (j := (1 : Int32)) (inb_of S13 ⟨(by decide), (by decide)⟩) (g := (mkF m 49 #[.val (.int i1), .val (.int i2), .val (.int i3)] [(.int i3), (.int (1 : Int32)), (.ref a11), (.ref a11), (.ref a10), (.ref a10)])) rfl rfl (hb hby d2_49)
      have K13 := K12.wr W13 (Or.inr q11)
      have N13 := Fr.snoc X13 N12 z11
      have LO_13 := LO_12.keepB (Keep.of_wr W13) q11
      have O_13 := O_12.wr W13 z11
      have Ea10_13 := Ea10_12.wr W13
      have Fa10_value_13 := Fa10_value_12.other W13 (Or.inl ne_a10_a11)
      have Fa10_coder_13 := Fa10_coder_12.other W13 (Or.inl ne_a10_a11)
      have Va11_13 : Arv Z h13 a11 k11 .char (2 : Int32) [(.int (nar .char i2)), (.int (nar .char i3))] (.int (0 : Int32)) := Arv.set Ar13 q13 S13 M13 H13 U13 (fits_nar_char _) W13 1 rfl (Nat.le_of_ble_eq_true rfl)
      refine own_go st13 ?_
      show own_Fin p.tables e below _ (T13.setTop (mkF m 50 #[.val (.int i1), .val (.int i2), .val (.int i3)] [(.ref a11), (.ref a10), (.ref a10)]))
      have hp14 : ∀ c ∈ ([(nar .char i2), (nar .char i3)] : List Int32), ¬ c < 0 ∧ ¬ (255 : Int32) < c := fun c hc => by
        simp only [List.mem_cons, List.not_mem_nil, or_false] at hc
        rcases hc with rfl | rfl
        · rw [own_narc _ hb2]; exact hb2
        · rw [own_narc _ hb3]; exact hb3
      obtain ⟨_, T14, L14, X14, ⟨rfl, M14, KK14, -, Gc14, t14, kb14, zt14, qt14, nt14, Gv14, Ga14⟩, st14⟩ := own_callCB X13 hx hZ hown rfl (hw _ (List.mem_of_getElem? (i := 11) rfl)) (hw _ (List.mem_of_getElem? (i := 12) rfl)) (hw _ (List.mem_of_getElem? (i := 13) rfl)) (by decide) (W := 1) (StrChars.Road.backV (W := 1) hZ hws (kI := 4) (hw _ (List.mem_of_getElem? (i := 8) rfl)) (cs := ([(nar .char i2), (nar .char i3)] : List Int32)) (bs := ([(nar .char i2), (nar .char i3)] : List Int32).map (fun c => c.toInt8.toInt32)) (n := 2) z10 (Nat.le_trans Z0 K13.1) Ea10_13 Fa10_value_13 Fa10_coder_13 Va11_13 (SC.ext O_13.2) hz rfl rfl (by decide) (by decide) hp14 rfl (by decide) (by decide)) e13 (g := (mkF m 50 #[.val (.int i1), .val (.int i2), .val (.int i3)] [(.ref a11), (.ref a10), (.ref a10)])) rfl (by rw [hml]; rfl) (argsL := [.ref a11]) (rest := [(.ref a10)]) rfl (lenOf pd1 rfl) rfl (by show 2 * 0 + _ ≤ _; exact Nat.le_of_eq rfl) (hb hby d2_50) (by decide) (by decide)
      have N14 := Fr.app N13 M14
      have LO_14 := LO_13.keepB KK14 q10
      have O_14 := O_13.keep KK14 (allS z10 all0)
      have Ea10_14 := Ea10_13.keep KK14
      have Va11_14 := Va11_13.keep KK14 (ninS (Ne.symm ne_a10_a11) nin0)
      have K14 := K13.trans KK14 (allS (Or.inr q10) all0)
      have S14 : own_Str Z T14.heap a10 ([(nar .char i2), (nar .char i3)] : List Int32) T14.heap.size := ⟨Ea10_14, ⟨hp14, Nat.le_of_ble_eq_true rfl⟩, Ea10_14.lt, t14, kb14, Ga14.lt, Gc14, Gv14, Ga14⟩
      refine own_go st14 ?_
      show own_Fin p.tables e below _ (T14.setTop (mkF m 53 #[.val (.int i1), .val (.int i2), .val (.int i3)] [(.ref a10)]))
      refine own_retAW X14 hx hlk hS0 (Nat.zero_le _) hret rfl rfl (hb hby d2_53) ?_ (by decide) (by decide)
      have hcs : own_cs i1 i2 i3 = ([(nar .char i2), (nar .char i3)] : List Int32) := by simp only [own_cs, if_neg hc1, if_neg hc5, own_narc _ hb2, own_narc _ hb3]
      exact ⟨a10, rfl, N14, K14, q10, hcs ▸ S14, (own_LO.warm (LO_14.mono K14.1) X14.warmed)⟩
theorem d3_0 : decode method_3_code 0 = .ok (.iload_n 0, 1) := by decide +kernel
theorem d3_1 : decode method_3_code 1 = .ok (.iload_n 3, 1) := by decide +kernel
theorem d3_2 : decode method_3_code 2 = .ok (.if_icmp .eq 5, 3) := by decide +kernel
theorem d3_5 : decode method_3_code 5 = .ok (.iconst 0, 1) := by decide +kernel
theorem d3_6 : decode method_3_code 6 = .ok (.ireturn, 1) := by decide +kernel
theorem d3_7 : decode method_3_code 7 = .ok (.iload_n 0, 1) := by decide +kernel
theorem d3_8 : decode method_3_code 8 = .ok (.iconst 1, 1) := by decide +kernel
theorem d3_9 : decode method_3_code 9 = .ok (.if_icmp .lt 11, 3) := by decide +kernel
theorem d3_12 : decode method_3_code 12 = .ok (.iload_n 1, 1) := by decide +kernel
theorem d3_13 : decode method_3_code 13 = .ok (.iload 4, 2) := by decide +kernel
theorem d3_15 : decode method_3_code 15 = .ok (.if_icmp .eq 5, 3) := by decide +kernel
theorem d3_18 : decode method_3_code 18 = .ok (.iconst 0, 1) := by decide +kernel
theorem d3_19 : decode method_3_code 19 = .ok (.ireturn, 1) := by decide +kernel
theorem d3_20 : decode method_3_code 20 = .ok (.iload_n 0, 1) := by decide +kernel
theorem d3_21 : decode method_3_code 21 = .ok (.iconst 2, 1) := by decide +kernel
theorem d3_22 : decode method_3_code 22 = .ok (.if_icmp .lt 11, 3) := by decide +kernel
theorem d3_25 : decode method_3_code 25 = .ok (.iload_n 2, 1) := by decide +kernel
theorem d3_26 : decode method_3_code 26 = .ok (.iload 5, 2) := by decide +kernel
theorem d3_28 : decode method_3_code 28 = .ok (.if_icmp .eq 5, 3) := by decide +kernel
theorem d3_31 : decode method_3_code 31 = .ok (.iconst 0, 1) := by decide +kernel
theorem d3_32 : decode method_3_code 32 = .ok (.ireturn, 1) := by decide +kernel
theorem d3_33 : decode method_3_code 33 = .ok (.iconst 1, 1) := by decide +kernel
theorem d3_34 : decode method_3_code 34 = .ok (.ireturn, 1) := by decide +kernel
theorem pd4 : parseMethodDescriptor "(ICCICC)Z" = some ⟨[.int, .char, .char, .int, .char, .char], some .boolean⟩ := by decide +kernel
theorem ef3 (m : MethodId) (i1 : Int32) (i2 : Int32) (i3 : Int32) (i4 : Int32) (i5 : Int32) (i6 : Int32) : entryFrame m #[(.int i1), (.int i2), (.int i3), (.int i4), (.int i5), (.int i6)] 6 = mkF m 0 #[.val (.int i1), .val (.int i2), .val (.int i3), .val (.int i4), .val (.int i5), .val (.int i6)] [] := by first | (simp [entryFrame, mkF, argsToLocals, Value.category]; done) | rfl
def f3 (i1 : Int32) (i2 : Int32) (i3 : Int32) (i4 : Int32) (i5 : Int32) (i6 : Int32) : Int32 := (if i1 = i4 then (if i1 < (1 : Int32) then (if i1 < (2 : Int32) then (1 : Int32) else (if i3 = i6 then (1 : Int32) else (0 : Int32))) else (if i2 = i5 then (if i1 < (2 : Int32) then (1 : Int32) else (if i3 = i6 then (1 : Int32) else (0 : Int32))) else (0 : Int32))) else (0 : Int32))
set_option maxRecDepth 65536 in
set_option maxHeartbeats 40000000 in
theorem rm3 (l : Launch) (Z : State) (a0 : Array Value) (hw : ∀ d ∈ tables_1, d.before a0 Z = true) (ws : List Jvm.Cond) (i1 : Int32) (i2 : Int32) (i3 : Int32) (i4 : Int32) (i5 : Int32) (i6 : Int32) (h0 : Heap) (n0 : Nat) (Z0 : n0 ≤ h0.size)  :
    own_Met l (⟨"com/example/grantline/grantline/eval/ComparablePrincipalIsSameAsPinLaw", "same", "(ICCICC)Z"⟩ : MethodName) method_3_code 6 (some .boolean) ({ frames := 0, cells := 0, slots := 0, locals := 0 } : Room) ws #[(.int i1), (.int i2), (.int i3), (.int i4), (.int i5), (.int i6)] Z h0 0 0 (own_QP (some (.int (f3 i1 i2 i3 i4 i5 i6))) h0 n0) := by
  refine own_met (plainFor_of_name pn1) ?_
  intro p e s m below meth c s₁ hx hby hml hown hnm hret hlk hZ e0 X0
  have hml : c.maxLocals = 6 := hml
  have N0 := Fr.nil n0
  have K0 := Keep.refl h0 []
  refine own_go (fun _ k => castTop (ef3 m i1 i2 i3 i4 i5 i6) k) ?_
  show own_Fin p.tables e below _ (s₁.setTop (mkF m 0 #[.val (.int i1), .val (.int i2), .val (.int i3), .val (.int i4), .val (.int i5), .val (.int i6)] []))
  refine own_go (fun _ k => XS.iloadN X0.here hx rfl (hb hby d3_0) rfl k) ?_
  show own_Fin p.tables e below _ (s₁.setTop (mkF m 1 #[.val (.int i1), .val (.int i2), .val (.int i3), .val (.int i4), .val (.int i5), .val (.int i6)] [(.int i1)]))
  refine own_go (fun _ k => XS.iloadN X0.here hx rfl (hb hby d3_1) rfl k) ?_
  show own_Fin p.tables e below _ (s₁.setTop (mkF m 2 #[.val (.int i1), .val (.int i2), .val (.int i3), .val (.int i4), .val (.int i5), .val (.int i6)] [(.int i4), (.int i1)]))
  by_cases hc1 : i1 = i4
  · refine own_go (fun _ k => XS.icmpYes X0.here hx rfl (pc0 := 2) (pc' := 7) rfl (hb hby d3_2) rfl (XT.ii_eq_t hc1) (by decide) (by decide) k) ?_
    show own_Fin p.tables e below _ (s₁.setTop (mkF m 7 #[.val (.int i1), .val (.int i2), .val (.int i3), .val (.int i4), .val (.int i5), .val (.int i6)] []))
    refine own_go (fun _ k => XS.iloadN X0.here hx rfl (hb hby d3_7) rfl k) ?_
    show own_Fin p.tables e below _ (s₁.setTop (mkF m 8 #[.val (.int i1), .val (.int i2), .val (.int i3), .val (.int i4), .val (.int i5), .val (.int i6)] [(.int i1)]))
    refine own_go (fun _ k => XT.iconstV X0.here hx rfl (1 : Int32) (hb hby d3_8) (by decide) k) ?_
    show own_Fin p.tables e below _ (s₁.setTop (mkF m 9 #[.val (.int i1), .val (.int i2), .val (.int i3), .val (.int i4), .val (.int i5), .val (.int i6)] [(.int (1 : Int32)), (.int i1)]))
    by_cases hc2 : i1 < (1 : Int32)
    · refine own_go (fun _ k => XS.icmpYes X0.here hx rfl (pc0 := 9) (pc' := 20) rfl (hb hby d3_9) rfl (XT.ii_lt_t hc2) (by decide) (by decide) k) ?_
      show own_Fin p.tables e below _ (s₁.setTop (mkF m 20 #[.val (.int i1), .val (.int i2), .val (.int i3), .val (.int i4), .val (.int i5), .val (.int i6)] []))
      refine own_go (fun _ k => XS.iloadN X0.here hx rfl (hb hby d3_20) rfl k) ?_
      show own_Fin p.tables e below _ (s₁.setTop (mkF m 21 #[.val (.int i1), .val (.int i2), .val (.int i3), .val (.int i4), .val (.int i5), .val (.int i6)] [(.int i1)]))
      refine own_go (fun _ k => XT.iconstV X0.here hx rfl (2 : Int32) (hb hby d3_21) (by decide) k) ?_
      show own_Fin p.tables e below _ (s₁.setTop (mkF m 22 #[.val (.int i1), .val (.int i2), .val (.int i3), .val (.int i4), .val (.int i5), .val (.int i6)] [(.int (2 : Int32)), (.int i1)]))
      by_cases hc3 : i1 < (2 : Int32)
      · refine own_go (fun _ k => XS.icmpYes X0.here hx rfl (pc0 := 22) (pc' := 33) rfl (hb hby d3_22) rfl (XT.ii_lt_t hc3) (by decide) (by decide) k) ?_
        show own_Fin p.tables e below _ (s₁.setTop (mkF m 33 #[.val (.int i1), .val (.int i2), .val (.int i3), .val (.int i4), .val (.int i5), .val (.int i6)] []))
        refine own_go (fun _ k => XT.iconstV X0.here hx rfl (1 : Int32) (hb hby d3_33) (by decide) k) ?_
        show own_Fin p.tables e below _ (s₁.setTop (mkF m 34 #[.val (.int i1), .val (.int i2), .val (.int i3), .val (.int i4), .val (.int i5), .val (.int i6)] [(.int (1 : Int32))]))
        refine own_retN X0 hx hlk (t := .boolean) hret (by simp) (hb hby d3_34) ?_ (by decide) (by decide)
        exact ⟨by rw [show f3 i1 i2 i3 i4 i5 i6 = (1 : Int32) from by simp only [f3, if_pos hc1, if_pos hc2, if_pos hc3]] <;> rfl, N0, e0⟩
      · refine own_go (fun _ k => XS.icmpNo X0.here hx rfl (hb hby d3_22) rfl (XT.ii_lt_f hc3) k) ?_
        show own_Fin p.tables e below _ (s₁.setTop (mkF m 25 #[.val (.int i1), .val (.int i2), .val (.int i3), .val (.int i4), .val (.int i5), .val (.int i6)] []))
        refine own_go (fun _ k => XS.iloadN X0.here hx rfl (hb hby d3_25) rfl k) ?_
        show own_Fin p.tables e below _ (s₁.setTop (mkF m 26 #[.val (.int i1), .val (.int i2), .val (.int i3), .val (.int i4), .val (.int i5), .val (.int i6)] [(.int i3)]))
        refine own_go (fun _ k => XS.iload X0.here hx rfl (hb hby d3_26) rfl k) ?_
        show own_Fin p.tables e below _ (s₁.setTop (mkF m 28 #[.val (.int i1), .val (.int i2), .val (.int i3), .val (.int i4), .val (.int i5), .val (.int i6)] [(.int i6), (.int i3)]))
        by_cases hc4 : i3 = i6
        · refine own_go (fun _ k => XS.icmpYes X0.here hx rfl (pc0 := 28) (pc' := 33) rfl (hb hby d3_28) rfl (XT.ii_eq_t hc4) (by decide) (by decide) k) ?_
          show own_Fin p.tables e below _ (s₁.setTop (mkF m 33 #[.val (.int i1), .val (.int i2), .val (.int i3), .val (.int i4), .val (.int i5), .val (.int i6)] []))
          refine own_go (fun _ k => XT.iconstV X0.here hx rfl (1 : Int32) (hb hby d3_33) (by decide) k) ?_
          show own_Fin p.tables e below _ (s₁.setTop (mkF m 34 #[.val (.int i1), .val (.int i2), .val (.int i3), .val (.int i4), .val (.int i5), .val (.int i6)] [(.int (1 : Int32))]))
          refine own_retN X0 hx hlk (t := .boolean) hret (by simp) (hb hby d3_34) ?_ (by decide) (by decide)
          exact ⟨by rw [show f3 i1 i2 i3 i4 i5 i6 = (1 : Int32) from by simp only [f3, if_pos hc1, if_pos hc2, if_neg hc3, if_pos hc4]] <;> rfl, N0, e0⟩
        · refine own_go (fun _ k => XS.icmpNo X0.here hx rfl (hb hby d3_28) rfl (XT.ii_eq_f hc4) k) ?_
          show own_Fin p.tables e below _ (s₁.setTop (mkF m 31 #[.val (.int i1), .val (.int i2), .val (.int i3), .val (.int i4), .val (.int i5), .val (.int i6)] []))
          refine own_go (fun _ k => XT.iconstV X0.here hx rfl (0 : Int32) (hb hby d3_31) (by decide) k) ?_
          show own_Fin p.tables e below _ (s₁.setTop (mkF m 32 #[.val (.int i1), .val (.int i2), .val (.int i3), .val (.int i4), .val (.int i5), .val (.int i6)] [(.int (0 : Int32))]))
          refine own_retN X0 hx hlk (t := .boolean) hret (by simp) (hb hby d3_32) ?_ (by decide) (by decide)
          exact ⟨by rw [show f3 i1 i2 i3 i4 i5 i6 = (0 : Int32) from by simp only [f3, if_pos hc1, if_pos hc2, if_neg hc3, if_neg hc4]] <;> rfl, N0, e0⟩
    · refine own_go (fun _ k => XS.icmpNo X0.here hx rfl (hb hby d3_9) rfl (XT.ii_lt_f hc2) k) ?_
      show own_Fin p.tables e below _ (s₁.setTop (mkF m 12 #[.val (.int i1), .val (.int i2), .val (.int i3), .val (.int i4), .val (.int i5), .val (.int i6)] []))
      refine own_go (fun _ k => XS.iloadN X0.here hx rfl (hb hby d3_12) rfl k) ?_
      show own_Fin p.tables e below _ (s₁.setTop (mkF m 13 #[.val (.int i1), .val (.int i2), .val (.int i3), .val (.int i4), .val (.int i5), .val (.int i6)] [(.int i2)]))
      refine own_go (fun _ k => XS.iload X0.here hx rfl (hb hby d3_13) rfl k) ?_
      show own_Fin p.tables e below _ (s₁.setTop (mkF m 15 #[.val (.int i1), .val (.int i2), .val (.int i3), .val (.int i4), .val (.int i5), .val (.int i6)] [(.int i5), (.int i2)]))
      by_cases hc5 : i2 = i5
      · refine own_go (fun _ k => XS.icmpYes X0.here hx rfl (pc0 := 15) (pc' := 20) rfl (hb hby d3_15) rfl (XT.ii_eq_t hc5) (by decide) (by decide) k) ?_
        show own_Fin p.tables e below _ (s₁.setTop (mkF m 20 #[.val (.int i1), .val (.int i2), .val (.int i3), .val (.int i4), .val (.int i5), .val (.int i6)] []))
        refine own_go (fun _ k => XS.iloadN X0.here hx rfl (hb hby d3_20) rfl k) ?_
        show own_Fin p.tables e below _ (s₁.setTop (mkF m 21 #[.val (.int i1), .val (.int i2), .val (.int i3), .val (.int i4), .val (.int i5), .val (.int i6)] [(.int i1)]))
        refine own_go (fun _ k => XT.iconstV X0.here hx rfl (2 : Int32) (hb hby d3_21) (by decide) k) ?_
        show own_Fin p.tables e below _ (s₁.setTop (mkF m 22 #[.val (.int i1), .val (.int i2), .val (.int i3), .val (.int i4), .val (.int i5), .val (.int i6)] [(.int (2 : Int32)), (.int i1)]))
        by_cases hc6 : i1 < (2 : Int32)
        · refine own_go (fun _ k => XS.icmpYes X0.here hx rfl (pc0 := 22) (pc' := 33) rfl (hb hby d3_22) rfl (XT.ii_lt_t hc6) (by decide) (by decide) k) ?_
          show own_Fin p.tables e below _ (s₁.setTop (mkF m 33 #[.val (.int i1), .val (.int i2), .val (.int i3), .val (.int i4), .val (.int i5), .val (.int i6)] []))
          refine own_go (fun _ k => XT.iconstV X0.here hx rfl (1 : Int32) (hb hby d3_33) (by decide) k) ?_
          show own_Fin p.tables e below _ (s₁.setTop (mkF m 34 #[.val (.int i1), .val (.int i2), .val (.int i3), .val (.int i4), .val (.int i5), .val (.int i6)] [(.int (1 : Int32))]))
          refine own_retN X0 hx hlk (t := .boolean) hret (by simp) (hb hby d3_34) ?_ (by decide) (by decide)
          exact ⟨by rw [show f3 i1 i2 i3 i4 i5 i6 = (1 : Int32) from by simp only [f3, if_pos hc1, if_neg hc2, if_pos hc5, if_pos hc6]] <;> rfl, N0, e0⟩
        · refine own_go (fun _ k => XS.icmpNo X0.here hx rfl (hb hby d3_22) rfl (XT.ii_lt_f hc6) k) ?_
          show own_Fin p.tables e below _ (s₁.setTop (mkF m 25 #[.val (.int i1), .val (.int i2), .val (.int i3), .val (.int i4), .val (.int i5), .val (.int i6)] []))
          refine own_go (fun _ k => XS.iloadN X0.here hx rfl (hb hby d3_25) rfl k) ?_
          show own_Fin p.tables e below _ (s₁.setTop (mkF m 26 #[.val (.int i1), .val (.int i2), .val (.int i3), .val (.int i4), .val (.int i5), .val (.int i6)] [(.int i3)]))
          refine own_go (fun _ k => XS.iload X0.here hx rfl (hb hby d3_26) rfl k) ?_
          show own_Fin p.tables e below _ (s₁.setTop (mkF m 28 #[.val (.int i1), .val (.int i2), .val (.int i3), .val (.int i4), .val (.int i5), .val (.int i6)] [(.int i6), (.int i3)]))
          by_cases hc7 : i3 = i6
          · refine own_go (fun _ k => XS.icmpYes X0.here hx rfl (pc0 := 28) (pc' := 33) rfl (hb hby d3_28) rfl (XT.ii_eq_t hc7) (by decide) (by decide) k) ?_
            show own_Fin p.tables e below _ (s₁.setTop (mkF m 33 #[.val (.int i1), .val (.int i2), .val (.int i3), .val (.int i4), .val (.int i5), .val (.int i6)] []))
            refine own_go (fun _ k => XT.iconstV X0.here hx rfl (1 : Int32) (hb hby d3_33) (by decide) k) ?_
            show own_Fin p.tables e below _ (s₁.setTop (mkF m 34 #[.val (.int i1), .val (.int i2), .val (.int i3), .val (.int i4), .val (.int i5), .val (.int i6)] [(.int (1 : Int32))]))
            refine own_retN X0 hx hlk (t := .boolean) hret (by simp) (hb hby d3_34) ?_ (by decide) (by decide)
            exact ⟨by rw [show f3 i1 i2 i3 i4 i5 i6 = (1 : Int32) from by simp only [f3, if_pos hc1, if_neg hc2, if_pos hc5, if_neg hc6, if_pos hc7]] <;> rfl, N0, e0⟩
          · refine own_go (fun _ k => XS.icmpNo X0.here hx rfl (hb hby d3_28) rfl (XT.ii_eq_f hc7) k) ?_
            show own_Fin p.tables e below _ (s₁.setTop (mkF m 31 #[.val (.int i1), .val (.int i2), .val (.int i3), .val (.int i4), .val (.int i5), .val (.int i6)] []))
            refine own_go (fun _ k => XT.iconstV X0.here hx rfl (0 : Int32) (hb hby d3_31) (by decide) k) ?_
            show own_Fin p.tables e below _ (s₁.setTop (mkF m 32 #[.val (.int i1), .val (.int i2), .val (.int i3), .val (.int i4), .val (.int i5), .val (.int i6)] [(.int (0 : Int32))]))
            refine own_retN X0 hx hlk (t := .boolean) hret (by simp) (hb hby d3_32) ?_ (by decide) (by decide)
            exact ⟨by rw [show f3 i1 i2 i3 i4 i5 i6 = (0 : Int32) from by simp only [f3, if_pos hc1, if_neg hc2, if_pos hc5, if_neg hc6, if_neg hc7]] <;> rfl, N0, e0⟩
      · refine own_go (fun _ k => XS.icmpNo X0.here hx rfl (hb hby d3_15) rfl (XT.ii_eq_f hc5) k) ?_
        show own_Fin p.tables e below _ (s₁.setTop (mkF m 18 #[.val (.int i1), .val (.int i2), .val (.int i3), .val (.int i4), .val (.int i5), .val (.int i6)] []))
        refine own_go (fun _ k => XT.iconstV X0.here hx rfl (0 : Int32) (hb hby d3_18) (by decide) k) ?_
        show own_Fin p.tables e below _ (s₁.setTop (mkF m 19 #[.val (.int i1), .val (.int i2), .val (.int i3), .val (.int i4), .val (.int i5), .val (.int i6)] [(.int (0 : Int32))]))
        refine own_retN X0 hx hlk (t := .boolean) hret (by simp) (hb hby d3_19) ?_ (by decide) (by decide)
        exact ⟨by rw [show f3 i1 i2 i3 i4 i5 i6 = (0 : Int32) from by simp only [f3, if_pos hc1, if_neg hc2, if_neg hc5]] <;> rfl, N0, e0⟩
  · refine own_go (fun _ k => XS.icmpNo X0.here hx rfl (hb hby d3_2) rfl (XT.ii_eq_f hc1) k) ?_
    show own_Fin p.tables e below _ (s₁.setTop (mkF m 5 #[.val (.int i1), .val (.int i2), .val (.int i3), .val (.int i4), .val (.int i5), .val (.int i6)] []))
    refine own_go (fun _ k => XT.iconstV X0.here hx rfl (0 : Int32) (hb hby d3_5) (by decide) k) ?_
    show own_Fin p.tables e below _ (s₁.setTop (mkF m 6 #[.val (.int i1), .val (.int i2), .val (.int i3), .val (.int i4), .val (.int i5), .val (.int i6)] [(.int (0 : Int32))]))
    refine own_retN X0 hx hlk (t := .boolean) hret (by simp) (hb hby d3_6) ?_ (by decide) (by decide)
    exact ⟨by rw [show f3 i1 i2 i3 i4 i5 i6 = (0 : Int32) from by simp only [f3, if_neg hc1]] <;> rfl, N0, e0⟩
theorem d4_0 : decode jdk_30_method_1_code 0 = .ok (.aload_n 0, 1) := by decide +kernel
theorem d4_1 : decode jdk_30_method_1_code 1 = .ok (.invokespecial 1, 3) := by decide +kernel
theorem d4_4 : decode jdk_30_method_1_code 4 = .ok (.return_, 1) := by decide +kernel
theorem pn2 : plainName "java/lang/Record" = true := by first | (simp [plainName, overriddenIn]; done) | decide +kernel
theorem pd5 : parseMethodDescriptor "()V" = some ⟨[], none⟩ := by decide +kernel
theorem ef4 (m : MethodId) (r0 : Addr) : entryFrame m #[(.ref r0)] 1 = mkF m 0 #[.val (.ref r0)] [] := by first | (simp [entryFrame, mkF, argsToLocals, Value.category]; done) | rfl
set_option maxRecDepth 65536 in
set_option maxHeartbeats 40000000 in
theorem rm4 (l : Launch) (Z : State) (a0 : Array Value) (hw : ∀ d ∈ tables_1, d.before a0 Z = true) (ws : List Jvm.Cond) (r0 : Addr) (h0 : Heap) (n0 : Nat) (Z0 : n0 ≤ h0.size)  :
    own_Met l (⟨"java/lang/Record", "<init>", "()V"⟩ : MethodName) jdk_30_method_1_code 1 none ({ frames := 1, cells := 0, slots := 0, locals := 12 } : Room) ws #[(.ref r0)] Z h0 0 0 (own_QP none h0 n0) := by
  refine own_met (plainFor_of_name pn2) ?_
  intro p e s m below meth c s₁ hx hby hml hown hnm hret hlk hZ e0 X0
  have hml : c.maxLocals = 1 := hml
  have N0 := Fr.nil n0
  have K0 := Keep.refl h0 []
  refine own_go (fun _ k => castTop (ef4 m r0) k) ?_
  show own_Fin p.tables e below _ (s₁.setTop (mkF m 0 #[.val (.ref r0)] []))
  refine own_go (fun _ k => XS.aloadN X0.here hx rfl (hb hby d4_0) rfl rfl k) ?_
  show own_Fin p.tables e below _ (s₁.setTop (mkF m 1 #[.val (.ref r0)] [(.ref r0)]))
  obtain ⟨T1, X1, e1, st1⟩ := initO X0 hx hZ hown (hw _ (List.mem_of_getElem? (i := 37) rfl)) (hw _ (List.mem_of_getElem? (i := 19) rfl)) (hw _ (List.mem_of_getElem? (i := 20) rfl)) e0 (g := (mkF m 1 #[.val (.ref r0)] [(.ref r0)])) rfl (by rw [hml]; rfl) rfl (hb hby d4_1) (by decide) (W := 0) (by show 2 * 0 + _ ≤ _; exact Nat.le_of_eq rfl) (by decide)
  refine own_go st1 ?_
  show own_Fin p.tables e below _ (T1.setTop (mkF m 4 #[.val (.ref r0)] []))
  refine own_retV X1 hx hlk hret (hb hby d4_4) ?_ (by decide) (by decide)
  exact ⟨rfl, N0, e1⟩
theorem d5_0 : decode prog_23_method_1_code 0 = .ok (.aload_n 0, 1) := by decide +kernel
theorem d5_1 : decode prog_23_method_1_code 1 = .ok (.invokespecial 1, 3) := by decide +kernel
theorem d5_4 : decode prog_23_method_1_code 4 = .ok (.aload_n 0, 1) := by decide +kernel
theorem d5_5 : decode prog_23_method_1_code 5 = .ok (.aload_n 1, 1) := by decide +kernel
theorem d5_6 : decode prog_23_method_1_code 6 = .ok (.putfield 7, 3) := by decide +kernel
theorem d5_9 : decode prog_23_method_1_code 9 = .ok (.aload_n 0, 1) := by decide +kernel
theorem d5_10 : decode prog_23_method_1_code 10 = .ok (.aload_n 2, 1) := by decide +kernel
theorem d5_11 : decode prog_23_method_1_code 11 = .ok (.putfield 13, 3) := by decide +kernel
theorem d5_14 : decode prog_23_method_1_code 14 = .ok (.aload_n 0, 1) := by decide +kernel
theorem d5_15 : decode prog_23_method_1_code 15 = .ok (.aload_n 3, 1) := by decide +kernel
theorem d5_16 : decode prog_23_method_1_code 16 = .ok (.putfield 16, 3) := by decide +kernel
theorem d5_19 : decode prog_23_method_1_code 19 = .ok (.return_, 1) := by decide +kernel
theorem pn3 : plainName "com/example/grantline/grantline/eval/ComparablePrincipal" = true := by first | (simp [plainName, overriddenIn]; done) | decide +kernel
theorem pd6 : parseMethodDescriptor "(Ljava/lang/String;Ljava/lang/String;Ljava/lang/String;)V" = some ⟨[(.object "java/lang/String"), (.object "java/lang/String"), (.object "java/lang/String")], none⟩ := by decide +kernel
theorem ef5 (m : MethodId) (r0 : Addr) (r1 : Addr) (r2 : Addr) (r3 : Addr) : entryFrame m #[(.ref r0), (.ref r1), (.ref r2), (.ref r3)] 4 = mkF m 0 #[.val (.ref r0), .val (.ref r1), .val (.ref r2), .val (.ref r3)] [] := by first | (simp [entryFrame, mkF, argsToLocals, Value.category]; done) | rfl
set_option maxRecDepth 65536 in
set_option maxHeartbeats 40000000 in
theorem rm5 (l : Launch) (Z : State) (a0 : Array Value) (hw : ∀ d ∈ tables_1, d.before a0 Z = true) (ws : List Jvm.Cond) (r0 : Addr) (r1 : Addr) (r2 : Addr) (r3 : Addr) (u_className : Value) (u_name : Value) (u_key : Value) (h0 : Heap) (n0 : Nat) (Z0 : n0 ≤ h0.size) (E_a : Exa Z h0 r0 "com/example/grantline/grantline/eval/ComparablePrincipal") (F_className : Fld Z h0 r0 "com/example/grantline/grantline/eval/ComparablePrincipal" "className" "Ljava/lang/String;" u_className) (F_name : Fld Z h0 r0 "com/example/grantline/grantline/eval/ComparablePrincipal" "name" "Ljava/lang/String;" u_name) (F_key : Fld Z h0 r0 "com/example/grantline/grantline/eval/ComparablePrincipal" "key" "Ljava/lang/String;" u_key) (g_a : n0 ≤ r0) :
    own_Met l (⟨"com/example/grantline/grantline/eval/ComparablePrincipal", "<init>", "(Ljava/lang/String;Ljava/lang/String;Ljava/lang/String;)V"⟩ : MethodName) prog_23_method_1_code 4 none ({ frames := 2, cells := 0, slots := 0, locals := 24 } : Room) ws #[(.ref r0), (.ref r1), (.ref r2), (.ref r3)] Z h0 0 0 (fun v h L => v = none ∧ Fr n0 L ∧ Keep h0 h [r0] ∧ Exa Z h r0 "com/example/grantline/grantline/eval/ComparablePrincipal" ∧ Fld Z h r0 "com/example/grantline/grantline/eval/ComparablePrincipal" "className" "Ljava/lang/String;" (.ref r1) ∧ Fld Z h r0 "com/example/grantline/grantline/eval/ComparablePrincipal" "name" "Ljava/lang/String;" (.ref r2) ∧ Fld Z h r0 "com/example/grantline/grantline/eval/ComparablePrincipal" "key" "Ljava/lang/String;" (.ref r3)) := by
  refine own_met (plainFor_of_name pn3) ?_
  intro p e s m below meth c s₁ hx hby hml hown hnm hret hlk hZ e0 X0
  have hml : c.maxLocals = 4 := hml
  have N0 := Fr.nil n0
  have K0 := Keep.refl h0 [r0]
  refine own_go (fun _ k => castTop (ef5 m r0 r1 r2 r3) k) ?_
  show own_Fin p.tables e below _ (s₁.setTop (mkF m 0 #[.val (.ref r0), .val (.ref r1), .val (.ref r2), .val (.ref r3)] []))
  refine own_go (fun _ k => XS.aloadN X0.here hx rfl (hb hby d5_0) rfl rfl k) ?_
  show own_Fin p.tables e below _ (s₁.setTop (mkF m 1 #[.val (.ref r0), .val (.ref r1), .val (.ref r2), .val (.ref r3)] [(.ref r0)]))
  obtain ⟨_, T1, L1, X1, ⟨rfl, M1, e1⟩, st1⟩ := own_callC X0 hx hZ hown rfl (hw _ (List.mem_of_getElem? (i := 32) rfl)) (hw _ (List.mem_of_getElem? (i := 33) rfl)) (hw _ (List.mem_of_getElem? (i := 35) rfl)) (hw _ (List.mem_of_getElem? (i := 36) rfl)) (by decide) (W := 0) (rm4 l Z a0 hw [] r0 h0 n0 (Nat.le_trans Z0 K0.1) ) (by decide) (by decide) e0 (g := (mkF m 1 #[.val (.ref r0), .val (.ref r1), .val (.ref r2), .val (.ref r3)] [(.ref r0)])) rfl (by rw [hml]; rfl) (argsL := []) (rest := []) rfl (lenOf pd5 rfl) rfl (by show 2 * 0 + _ ≤ _; exact Nat.le_of_eq rfl) (hb hby d5_1) (by decide) (by decide)
  have N1 := Fr.app N0 M1
  refine own_go st1 ?_
  show own_Fin p.tables e below _ (T1.setTop (mkF m 4 #[.val (.ref r0), .val (.ref r1), .val (.ref r2), .val (.ref r3)] []))
  refine own_go (fun _ k => XS.aloadN X1.here hx rfl (hb hby d5_4) rfl rfl k) ?_
  show own_Fin p.tables e below _ (T1.setTop (mkF m 5 #[.val (.ref r0), .val (.ref r1), .val (.ref r2), .val (.ref r3)] [(.ref r0)]))
  refine own_go (fun _ k => XS.aloadN X1.here hx rfl (hb hby d5_5) rfl rfl k) ?_
  show own_Fin p.tables e below _ (T1.setTop (mkF m 6 #[.val (.ref r0), .val (.ref r1), .val (.ref r2), .val (.ref r3)] [(.ref r1), (.ref r0)]))
  obtain ⟨T2, h2, X2, e2, W2, st2⟩ := putF X1 hx hZ hown (host := "") (Or.inl (hw _ (List.mem_of_getElem? (i := 38) rfl))) Via.refl e1 F_className E_a (Or.inr ⟨(hw _ (List.mem_of_getElem? (i := 39) rfl)), rfl, hnm⟩) (hw _ (List.mem_of_getElem? (i := 1) rfl)) (ty := (.object "java/lang/String")) (by decide) rfl rfl (g := (mkF m 6 #[.val (.ref r0), .val (.ref r1), .val (.ref r2), .val (.ref r3)] [(.ref r1), (.ref r0)])) rfl rfl (hb hby d5_6)
  have K2 := K0.wr W2 (Or.inl (List.mem_of_getElem? (i := 0) rfl))
  have N2 := Fr.snoc X2 N1 g_a
  have Er0_2 := E_a.wr W2
  have Fr0_className_2 := F_className.same W2
  have Fr0_name_2 := F_name.other W2 (Or.inr (slot_ne (Or.inr (hw _ (List.mem_of_getElem? (i := 41) rfl))) (Or.inr (hw _ (List.mem_of_getElem? (i := 39) rfl))) (by decide) (t := (.object "java/lang/String")) (t' := (.object "java/lang/String")) (by decide) (by decide)))
  have Fr0_key_2 := F_key.other W2 (Or.inr (slot_ne (Or.inr (hw _ (List.mem_of_getElem? (i := 43) rfl))) (Or.inr (hw _ (List.mem_of_getElem? (i := 39) rfl))) (by decide) (t := (.object "java/lang/String")) (t' := (.object "java/lang/String")) (by decide) (by decide)))
  refine own_go st2 ?_
  show own_Fin p.tables e below _ (T2.setTop (mkF m 9 #[.val (.ref r0), .val (.ref r1), .val (.ref r2), .val (.ref r3)] []))
  refine own_go (fun _ k => XS.aloadN X2.here hx rfl (hb hby d5_9) rfl rfl k) ?_
  show own_Fin p.tables e below _ (T2.setTop (mkF m 10 #[.val (.ref r0), .val (.ref r1), .val (.ref r2), .val (.ref r3)] [(.ref r0)]))
  refine own_go (fun _ k => XS.aloadN X2.here hx rfl (hb hby d5_10) rfl rfl k) ?_
  show own_Fin p.tables e below _ (T2.setTop (mkF m 11 #[.val (.ref r0), .val (.ref r1), .val (.ref r2), .val (.ref r3)] [(.ref r2), (.ref r0)]))
  obtain ⟨T3, h3, X3, e3, W3, st3⟩ := putF X2 hx hZ hown (host := "") (Or.inl (hw _ (List.mem_of_getElem? (i := 40) rfl))) Via.refl e2 Fr0_name_2 Er0_2 (Or.inr ⟨(hw _ (List.mem_of_getElem? (i := 41) rfl)), rfl, hnm⟩) (hw _ (List.mem_of_getElem? (i := 1) rfl)) (ty := (.object "java/lang/String")) (by decide) rfl rfl (g := (mkF m 11 #[.val (.ref r0), .val (.ref r1), .val (.ref r2), .val (.ref r3)] [(.ref r2), (.ref r0)])) rfl rfl (hb hby d5_11)
  have K3 := K2.wr W3 (Or.inl (List.mem_of_getElem? (i := 0) rfl))
  have N3 := Fr.snoc X3 N2 g_a
  have Er0_3 := Er0_2.wr W3
  have Fr0_className_3 := Fr0_className_2.other W3 (Or.inr (slot_ne (Or.inr (hw _ (List.mem_of_getElem? (i := 39) rfl))) (Or.inr (hw _ (List.mem_of_getElem? (i := 41) rfl))) (by decide) (t := (.object "java/lang/String")) (t' := (.object "java/lang/String")) (by decide) (by decide)))
  have Fr0_name_3 := Fr0_name_2.same W3
  have Fr0_key_3 := Fr0_key_2.other W3 (Or.inr (slot_ne (Or.inr (hw _ (List.mem_of_getElem? (i := 43) rfl))) (Or.inr (hw _ (List.mem_of_getElem? (i := 41) rfl))) (by decide) (t := (.object "java/lang/String")) (t' := (.object "java/lang/String")) (by decide) (by decide)))
  refine own_go st3 ?_
  show own_Fin p.tables e below _ (T3.setTop (mkF m 14 #[.val (.ref r0), .val (.ref r1), .val (.ref r2), .val (.ref r3)] []))
  refine own_go (fun _ k => XS.aloadN X3.here hx rfl (hb hby d5_14) rfl rfl k) ?_
  show own_Fin p.tables e below _ (T3.setTop (mkF m 15 #[.val (.ref r0), .val (.ref r1), .val (.ref r2), .val (.ref r3)] [(.ref r0)]))
  refine own_go (fun _ k => XS.aloadN X3.here hx rfl (hb hby d5_15) rfl rfl k) ?_
  show own_Fin p.tables e below _ (T3.setTop (mkF m 16 #[.val (.ref r0), .val (.ref r1), .val (.ref r2), .val (.ref r3)] [(.ref r3), (.ref r0)]))
  obtain ⟨T4, h4, X4, e4, W4, st4⟩ := putF X3 hx hZ hown (host := "") (Or.inl (hw _ (List.mem_of_getElem? (i := 42) rfl))) Via.refl e3 Fr0_key_3 Er0_3 (Or.inr ⟨(hw _ (List.mem_of_getElem? (i := 43) rfl)), rfl, hnm⟩) (hw _ (List.mem_of_getElem? (i := 1) rfl)) (ty := (.object "java/lang/String")) (by decide) rfl rfl (g := (mkF m 16 #[.val (.ref r0), .val (.ref r1), .val (.ref r2), .val (.ref r3)] [(.ref r3), (.ref r0)])) rfl rfl (hb hby d5_16)
  have K4 := K3.wr W4 (Or.inl (List.mem_of_getElem? (i := 0) rfl))
  have N4 := Fr.snoc X4 N3 g_a
  have Er0_4 := Er0_3.wr W4
  have Fr0_className_4 := Fr0_className_3.other W4 (Or.inr (slot_ne (Or.inr (hw _ (List.mem_of_getElem? (i := 39) rfl))) (Or.inr (hw _ (List.mem_of_getElem? (i := 43) rfl))) (by decide) (t := (.object "java/lang/String")) (t' := (.object "java/lang/String")) (by decide) (by decide)))
  have Fr0_name_4 := Fr0_name_3.other W4 (Or.inr (slot_ne (Or.inr (hw _ (List.mem_of_getElem? (i := 41) rfl))) (Or.inr (hw _ (List.mem_of_getElem? (i := 43) rfl))) (by decide) (t := (.object "java/lang/String")) (t' := (.object "java/lang/String")) (by decide) (by decide)))
  have Fr0_key_4 := Fr0_key_3.same W4
  refine own_go st4 ?_
  show own_Fin p.tables e below _ (T4.setTop (mkF m 19 #[.val (.ref r0), .val (.ref r1), .val (.ref r2), .val (.ref r3)] []))
  refine own_retV X4 hx hlk hret (hb hby d5_19) ?_ (by decide) (by decide)
  show _ ∧ _ ∧ Keep h0 T4.heap _ ∧ _
  rw [e4]
  exact ⟨rfl, N4, K4, Er0_4, Fr0_className_4, Fr0_name_4, Fr0_key_4⟩
theorem d6_0 : decode prog_23_method_4_code 0 = .ok (.aload_n 0, 1) := by decide +kernel
theorem d6_1 : decode prog_23_method_4_code 1 = .ok (.getfield 7, 3) := by decide +kernel
theorem d6_4 : decode prog_23_method_4_code 4 = .ok (.aload_n 1, 1) := by decide +kernel
theorem d6_5 : decode prog_23_method_4_code 5 = .ok (.getfield 7, 3) := by decide +kernel
theorem d6_8 : decode prog_23_method_4_code 8 = .ok (.invokevirtual 23, 3) := by decide +kernel
theorem d6_11 : decode prog_23_method_4_code 11 = .ok (.ifCond .eq 21, 3) := by decide +kernel
theorem d6_14 : decode prog_23_method_4_code 14 = .ok (.aload_n 0, 1) := by decide +kernel
theorem d6_15 : decode prog_23_method_4_code 15 = .ok (.getfield 16, 3) := by decide +kernel
theorem d6_18 : decode prog_23_method_4_code 18 = .ok (.aload_n 1, 1) := by decide +kernel
theorem d6_19 : decode prog_23_method_4_code 19 = .ok (.getfield 16, 3) := by decide +kernel
theorem d6_22 : decode prog_23_method_4_code 22 = .ok (.invokevirtual 23, 3) := by decide +kernel
theorem d6_25 : decode prog_23_method_4_code 25 = .ok (.ifCond .eq 7, 3) := by decide +kernel
theorem d6_28 : decode prog_23_method_4_code 28 = .ok (.iconst 1, 1) := by decide +kernel
theorem d6_29 : decode prog_23_method_4_code 29 = .ok (.goto 4, 3) := by decide +kernel
theorem d6_32 : decode prog_23_method_4_code 32 = .ok (.iconst 0, 1) := by decide +kernel
theorem d6_33 : decode prog_23_method_4_code 33 = .ok (.ireturn, 1) := by decide +kernel
theorem pd7 : parseMethodDescriptor "(Lcom/example/grantline/grantline/eval/ComparablePrincipal;)Z" = some ⟨[(.object "com/example/grantline/grantline/eval/ComparablePrincipal")], some .boolean⟩ := by decide +kernel
theorem ef6 (m : MethodId) (r0 : Addr) (r1 : Addr) : entryFrame m #[(.ref r0), (.ref r1)] 2 = mkF m 0 #[.val (.ref r0), .val (.ref r1)] [] := by first | (simp [entryFrame, mkF, argsToLocals, Value.category]; done) | rfl
def f6 (c1 : List Int32) (c2 : List Int32) (c3 : List Int32) (c4 : List Int32) : Int32 := (if (own_eq c1 c3) = (0 : Int32) then (0 : Int32) else (if (own_eq c2 c4) = (0 : Int32) then (0 : Int32) else (1 : Int32)))
set_option maxRecDepth 65536 in
set_option maxHeartbeats 40000000 in
theorem rm6 (l : Launch) (Z : State) (a0 : Array Value) (hw : ∀ d ∈ tables_1, d.before a0 Z = true) (ws : List Jvm.Cond) (r0 : Addr) (r1 : Addr) (h0 : Heap) (n0 : Nat) (Z0 : n0 ≤ h0.size) (c1 : List Int32) (c2 : List Int32) (c3 : List Int32) (c4 : List Int32) (r2 : Addr) (r3 : Addr) (r4 : Addr) (r5 : Addr) (B1 : Nat) (B2 : Nat) (B3 : Nat) (B4 : Nat) (F1 : Fld Z h0 r0 "com/example/grantline/grantline/eval/ComparablePrincipal" "className" "Ljava/lang/String;" (.ref r2)) (F2 : Fld Z h0 r0 "com/example/grantline/grantline/eval/ComparablePrincipal" "key" "Ljava/lang/String;" (.ref r3)) (F3 : Fld Z h0 r1 "com/example/grantline/grantline/eval/ComparablePrincipal" "className" "Ljava/lang/String;" (.ref r4)) (F4 : Fld Z h0 r1 "com/example/grantline/grantline/eval/ComparablePrincipal" "key" "Ljava/lang/String;" (.ref r5)) (S1 : own_Str Z h0 r2 c1 B1) (S2 : own_Str Z h0 r3 c2 B2) (S3 : own_Str Z h0 r4 c3 B3) (S4 : own_Str Z h0 r5 c4 B4) (ic : Int32) (SC : Sta Z Z.heap "java/lang/String" "COMPACT_STRINGS" "Z" (.int ic)) (hz : ¬ ic = 0) (O0 : Old Z n0 h0) :
    own_Met l (⟨"com/example/grantline/grantline/eval/ComparablePrincipal", "isSameAs", "(Lcom/example/grantline/grantline/eval/ComparablePrincipal;)Z"⟩ : MethodName) prog_23_method_4_code 2 (some .boolean) ({ frames := 2, cells := 0, slots := 0, locals := 28 } : Room) ws #[(.ref r0), (.ref r1)] Z h0 0 0 (own_QP (some (.int (f6 c1 c2 c3 c4))) h0 n0) := by
  refine own_met (plainFor_of_name pn3) ?_
  intro p e s m below meth c s₁ hx hby hml hown hnm hret hlk hZ e0 X0
  have hml : c.maxLocals = 2 := hml
  have N0 := Fr.nil n0
  have K0 := Keep.refl h0 []
  have hwe : ∀ d ∈ StrChars.Road.wordsEq, d.before a0 Z = true := fun d hd => hw d ((by decide +kernel : ∀ d ∈ StrChars.Road.wordsEq, d ∈ tables_1) d hd)
  refine own_go (fun _ k => castTop (ef6 m r0 r1) k) ?_
  show own_Fin p.tables e below _ (s₁.setTop (mkF m 0 #[.val (.ref r0), .val (.ref r1)] []))
  refine own_go (fun _ k => XS.aloadN X0.here hx rfl (hb hby d6_0) rfl rfl k) ?_
  show own_Fin p.tables e below _ (s₁.setTop (mkF m 1 #[.val (.ref r0), .val (.ref r1)] [(.ref r0)]))
  obtain ⟨T1, X1, e1, st1⟩ := getF X0 hx hZ hown (host := "") (Or.inl (hw _ (List.mem_of_getElem? (i := 38) rfl))) Via.refl e0 F1 (g := (mkF m 1 #[.val (.ref r0), .val (.ref r1)] [(.ref r0)])) rfl rfl (hb hby d6_1)
  refine own_go st1 ?_
  show own_Fin p.tables e below _ (T1.setTop (mkF m 4 #[.val (.ref r0), .val (.ref r1)] [(.ref r2)]))
  refine own_go (fun _ k => XS.aloadN X1.here hx rfl (hb hby d6_4) rfl rfl k) ?_
  show own_Fin p.tables e below _ (T1.setTop (mkF m 5 #[.val (.ref r0), .val (.ref r1)] [(.ref r1), (.ref r2)]))
  obtain ⟨T2, X2, e2, st2⟩ := getF X1 hx hZ hown (host := "") (Or.inl (hw _ (List.mem_of_getElem? (i := 38) rfl))) Via.refl e1 F3 (g := (mkF m 5 #[.val (.ref r0), .val (.ref r1)] [(.ref r1), (.ref r2)])) rfl rfl (hb hby d6_5)
  refine own_go st2 ?_
  show own_Fin p.tables e below _ (T2.setTop (mkF m 8 #[.val (.ref r0), .val (.ref r1)] [(.ref r4), (.ref r2)]))
  obtain ⟨Ex3, cx3, -, tx3, kx3, -, Cx3, Vx3, Ax3⟩ := id S1
  obtain ⟨Ey3, cy3, -, ty3, ky3, -, Cy3, Vy3, Ay3⟩ := id S3
  obtain ⟨v3, T3, L3, X3, ⟨hv3, hL3, e3⟩, st3⟩ := own_callVB X2 hx hZ hown (hw _ (List.mem_of_getElem? (i := 52) rfl)) (hw _ (List.mem_of_getElem? (i := 53) rfl)) (hw _ (List.mem_of_getElem? (i := 55) rfl)) (hw _ (List.mem_of_getElem? (i := 54) rfl)) (by decide) (W := 0) (kc := 0) (kn := 0) (Qb := fun v U L => (((v = some (.int 1) ∧ c1 = c3) ∨ (v = some (.int 0) ∧ ¬ c1 = c3)) ∧ L = [] ∧ U.heap = h0)) (StrChars.Road.eqW (W := 0) hZ hwe (kI := 4) (hw _ (List.mem_of_getElem? (i := 8) rfl)) Ex3 Vx3 Cx3 Ax3 (StrChars.Road.codOf rfl (fun c hc => (cx3.1 c hc).2)) (own_up cx3.1) cx3.2 Ey3 Vy3 Cy3 Ay3 (StrChars.Road.codOf rfl (fun c hc => (cy3.1 c hc).2)) (own_up cy3.1) cy3.2 (SC.ext O0.2) hz (by decide) (by decide)) e2 Ex3 (g := (mkF m 8 #[.val (.ref r0), .val (.ref r1)] [(.ref r4), (.ref r2)])) rfl (by rw [hml]; rfl) (argsL := [(.ref r4)]) (rest := []) rfl (lenOf pd2 rfl) rfl (by show 2 * 0 + _ ≤ _; exact Nat.le_of_eq rfl) (hb hby d6_8) (by decide) (by decide)
  obtain rfl := own_eq_of hv3
  have N3 := Fr.app N0 (hL3 ▸ Fr.nil n0)
  refine own_go st3 ?_
  show own_Fin p.tables e below _ (T3.setTop (mkF m 11 #[.val (.ref r0), .val (.ref r1)] [(.int (own_eq c1 c3))]))
  by_cases hc4 : (own_eq c1 c3) = (0 : Int32)
  · refine own_go (fun _ k => XS.ifYes X3.here hx rfl (pc0 := 11) (pc' := 32) rfl (hb hby d6_11) rfl (XT.i0_eq_t hc4) (by decide) (by decide) k) ?_
    show own_Fin p.tables e below _ (T3.setTop (mkF m 32 #[.val (.ref r0), .val (.ref r1)] []))
    refine own_go (fun _ k => XT.iconstV X3.here hx rfl (0 : Int32) (hb hby d6_32) (by decide) k) ?_
    show own_Fin p.tables e below _ (T3.setTop (mkF m 33 #[.val (.ref r0), .val (.ref r1)] [(.int (0 : Int32))]))
    refine own_retN X3 hx hlk (t := .boolean) hret (by simp) (hb hby d6_33) ?_ (by decide) (by decide)
    exact ⟨by rw [show f6 c1 c2 c3 c4 = (0 : Int32) from by simp only [f6, if_pos hc4]] <;> rfl, N3, e3⟩
  · refine own_go (fun _ k => XS.ifNo X3.here hx rfl (hb hby d6_11) rfl (XT.i0_eq_f hc4) k) ?_
    show own_Fin p.tables e below _ (T3.setTop (mkF m 14 #[.val (.ref r0), .val (.ref r1)] []))
    refine own_go (fun _ k => XS.aloadN X3.here hx rfl (hb hby d6_14) rfl rfl k) ?_
    show own_Fin p.tables e below _ (T3.setTop (mkF m 15 #[.val (.ref r0), .val (.ref r1)] [(.ref r0)]))
    obtain ⟨T5, X5, e5, st5⟩ := getF X3 hx hZ hown (host := "") (Or.inl (hw _ (List.mem_of_getElem? (i := 42) rfl))) Via.refl e3 F2 (g := (mkF m 15 #[.val (.ref r0), .val (.ref r1)] [(.ref r0)])) rfl rfl (hb hby d6_15)
    refine own_go st5 ?_
    show own_Fin p.tables e below _ (T5.setTop (mkF m 18 #[.val (.ref r0), .val (.ref r1)] [(.ref r3)]))
    refine own_go (fun _ k => XS.aloadN X5.here hx rfl (hb hby d6_18) rfl rfl k) ?_
    show own_Fin p.tables e below _ (T5.setTop (mkF m 19 #[.val (.ref r0), .val (.ref r1)] [(.ref r1), (.ref r3)]))
    obtain ⟨T6, X6, e6, st6⟩ := getF X5 hx hZ hown (host := "") (Or.inl (hw _ (List.mem_of_getElem? (i := 42) rfl))) Via.refl e5 F4 (g := (mkF m 19 #[.val (.ref r0), .val (.ref r1)] [(.ref r1), (.ref r3)])) rfl rfl (hb hby d6_19)
    refine own_go st6 ?_
    show own_Fin p.tables e below _ (T6.setTop (mkF m 22 #[.val (.ref r0), .val (.ref r1)] [(.ref r5), (.ref r3)]))
    obtain ⟨Ex7, cx7, -, tx7, kx7, -, Cx7, Vx7, Ax7⟩ := id S2
    obtain ⟨Ey7, cy7, -, ty7, ky7, -, Cy7, Vy7, Ay7⟩ := id S4
    obtain ⟨v7, T7, L7, X7, ⟨hv7, hL7, e7⟩, st7⟩ := own_callVB X6 hx hZ hown (hw _ (List.mem_of_getElem? (i := 52) rfl)) (hw _ (List.mem_of_getElem? (i := 53) rfl)) (hw _ (List.mem_of_getElem? (i := 55) rfl)) (hw _ (List.mem_of_getElem? (i := 54) rfl)) (by decide) (W := 0) (kc := 0) (kn := 0) (Qb := fun v U L => (((v = some (.int 1) ∧ c2 = c4) ∨ (v = some (.int 0) ∧ ¬ c2 = c4)) ∧ L = [] ∧ U.heap = h0)) (StrChars.Road.eqW (W := 0) hZ hwe (kI := 4) (hw _ (List.mem_of_getElem? (i := 8) rfl)) Ex7 Vx7 Cx7 Ax7 (StrChars.Road.codOf rfl (fun c hc => (cx7.1 c hc).2)) (own_up cx7.1) cx7.2 Ey7 Vy7 Cy7 Ay7 (StrChars.Road.codOf rfl (fun c hc => (cy7.1 c hc).2)) (own_up cy7.1) cy7.2 (SC.ext O0.2) hz (by decide) (by decide)) e6 Ex7 (g := (mkF m 22 #[.val (.ref r0), .val (.ref r1)] [(.ref r5), (.ref r3)])) rfl (by rw [hml]; rfl) (argsL := [(.ref r5)]) (rest := []) rfl (lenOf pd2 rfl) rfl (by show 2 * 0 + _ ≤ _; exact Nat.le_of_eq rfl) (hb hby d6_22) (by decide) (by decide)
    obtain rfl := own_eq_of hv7
    have N7 := Fr.app N3 (hL7 ▸ Fr.nil n0)
    refine own_go st7 ?_
    show own_Fin p.tables e below _ (T7.setTop (mkF m 25 #[.val (.ref r0), .val (.ref r1)] [(.int (own_eq c2 c4))]))
    by_cases hc8 : (own_eq c2 c4) = (0 : Int32)
    · refine own_go (fun _ k => XS.ifYes X7.here hx rfl (pc0 := 25) (pc' := 32) rfl (hb hby d6_25) rfl (XT.i0_eq_t hc8) (by decide) (by decide) k) ?_
      show own_Fin p.tables e below _ (T7.setTop (mkF m 32 #[.val (.ref r0), .val (.ref r1)] []))
      refine own_go (fun _ k => XT.iconstV X7.here hx rfl (0 : Int32) (hb hby d6_32) (by decide) k) ?_
      show own_Fin p.tables e below _ (T7.setTop (mkF m 33 #[.val (.ref r0), .val (.ref r1)] [(.int (0 : Int32))]))
      refine own_retN X7 hx hlk (t := .boolean) hret (by simp) (hb hby d6_33) ?_ (by decide) (by decide)
      exact ⟨by rw [show f6 c1 c2 c3 c4 = (0 : Int32) from by simp only [f6, if_neg hc4, if_pos hc8]] <;> rfl, N7, e7⟩
    · refine own_go (fun _ k => XS.ifNo X7.here hx rfl (hb hby d6_25) rfl (XT.i0_eq_f hc8) k) ?_
      show own_Fin p.tables e below _ (T7.setTop (mkF m 28 #[.val (.ref r0), .val (.ref r1)] []))
      refine own_go (fun _ k => XT.iconstV X7.here hx rfl (1 : Int32) (hb hby d6_28) (by decide) k) ?_
      show own_Fin p.tables e below _ (T7.setTop (mkF m 29 #[.val (.ref r0), .val (.ref r1)] [(.int (1 : Int32))]))
      refine own_go (fun _ k => XS.goto X7.here hx rfl (pc0 := 29) (pc' := 33) rfl (hb hby d6_29) (by decide) (by decide) k) ?_
      show own_Fin p.tables e below _ (T7.setTop (mkF m 33 #[.val (.ref r0), .val (.ref r1)] [(.int (1 : Int32))]))
      refine own_retN X7 hx hlk (t := .boolean) hret (by simp) (hb hby d6_33) ?_ (by decide) (by decide)
      exact ⟨by rw [show f6 c1 c2 c3 c4 = (1 : Int32) from by simp only [f6, if_neg hc4, if_neg hc8]] <;> rfl, N7, e7⟩
def own_l (i : Int32) : Int32 := ((XT.ushr i (16 : Int32)) &&& (3 : Int32)) % (3 : Int32)
def own_lo (i : Int32) : Int32 := (i &&& (255 : Int32)).toUInt32.toUInt16.toUInt32.toInt32
def own_hi (i : Int32) : Int32 := ((XT.ushr i (8 : Int32)) &&& (255 : Int32)).toUInt32.toUInt16.toUInt32.toInt32
def own_n1 (i : Int32) : Int32 := (XT.ushr i (16 : Int32)) &&& (1 : Int32)
def own_n2 (i : Int32) : Int32 := (XT.ushr i (17 : Int32)) &&& (1 : Int32)
def own_lb (i1 i3 i5 : Int32) : Int32 := if (i5 &&& (1 : Int32)) = (0 : Int32) then own_l i3 else own_l i1
def own_b0 (i1 i3 i5 : Int32) : Int32 := if (i5 &&& (2 : Int32)) = (0 : Int32) then own_lo i3 else own_lo i1
def own_b1 (i1 i3 i5 : Int32) : Int32 := if (i5 &&& (4 : Int32)) = (0 : Int32) then own_hi i3 else own_hi i1
def own_kb (i2 i4 i5 : Int32) : Int32 := if (i5 &&& (8 : Int32)) = (0 : Int32) then own_l i4 else own_l i2
def own_m0 (i2 i4 i5 : Int32) : Int32 := if (i5 &&& (16 : Int32)) = (0 : Int32) then own_lo i4 else own_lo i2
def own_m1 (i2 i4 i5 : Int32) : Int32 := if (i5 &&& (32 : Int32)) = (0 : Int32) then own_hi i4 else own_hi i2
theorem own_lo_b (i : Int32) : ¬ own_lo i < 0 ∧ ¬ (255 : Int32) < own_lo i := by unfold own_lo; rw [own_i2c]; exact own_b255 i
theorem own_hi_b (i : Int32) : ¬ own_hi i < 0 ∧ ¬ (255 : Int32) < own_hi i := by unfold own_hi; rw [own_i2c]; exact own_b255 _
theorem own_b0_b (i1 i3 i5 : Int32) : ¬ own_b0 i1 i3 i5 < 0 ∧ ¬ (255 : Int32) < own_b0 i1 i3 i5 := by
  unfold own_b0
  split <;> exact own_lo_b _
theorem own_b1_b (i1 i3 i5 : Int32) : ¬ own_b1 i1 i3 i5 < 0 ∧ ¬ (255 : Int32) < own_b1 i1 i3 i5 := by
  unfold own_b1
  split <;> exact own_hi_b _
theorem own_m0_b (i2 i4 i5 : Int32) : ¬ own_m0 i2 i4 i5 < 0 ∧ ¬ (255 : Int32) < own_m0 i2 i4 i5 := by
  unfold own_m0
  split <;> exact own_lo_b _
theorem own_m1_b (i2 i4 i5 : Int32) : ¬ own_m1 i2 i4 i5 < 0 ∧ ¬ (255 : Int32) < own_m1 i2 i4 i5 := by
  unfold own_m1
  split <;> exact own_hi_b _
theorem pd8 : parseMethodDescriptor "(IIIIII)Z" = some ⟨[.int, .int, .int, .int, .int, .int], some .boolean⟩ := by decide +kernel
theorem ef0 (m : MethodId) (i1 : Int32) (i2 : Int32) (i3 : Int32) (i4 : Int32) (i5 : Int32) (i6 : Int32) : entryFrame m #[(.int i1), (.int i2), (.int i3), (.int i4), (.int i5), (.int i6)] maxLocals = mkF m 0 #[.val (.int i1), .val (.int i2), .val (.int i3), .val (.int i4), .val (.int i5), .val (.int i6), .unset, .unset, .unset, .unset, .unset, .unset, .unset, .unset, .unset, .unset, .unset, .unset, .unset, .unset, .unset, .unset, .unset, .unset, .unset] [] := by first | (simp [entryFrame, mkF, argsToLocals, Value.category, maxLocals]; done) | rfl
def own_exp (i1 : Int32) (i2 : Int32) (i3 : Int32) (i4 : Int32) (i5 : Int32) (i6 : Int32) : Int32 := (if (f3 (own_l i1) (own_lo i1) (own_hi i1) (own_lb i1 i3 i5) (own_b0 i1 i3 i5) (own_b1 i1 i3 i5)) = (0 : Int32) then (0 : Int32) else (if (f3 (own_l i2) (own_lo i2) (own_hi i2) (own_kb i2 i4 i5) (own_m0 i2 i4 i5) (own_m1 i2 i4 i5)) = (0 : Int32) then (0 : Int32) else (1 : Int32)))
def f0 (i1 : Int32) (i2 : Int32) (i3 : Int32) (i4 : Int32) (i5 : Int32) (i6 : Int32) : Int32 := (if (f6 (own_cs (own_l i1) (own_lo i1) (own_hi i1)) (own_cs (own_l i2) (own_lo i2) (own_hi i2)) (own_cs (own_lb i1 i3 i5) (own_b0 i1 i3 i5) (own_b1 i1 i3 i5)) (own_cs (own_kb i2 i4 i5) (own_m0 i2 i4 i5) (own_m1 i2 i4 i5))) = (own_exp i1 i2 i3 i4 i5 i6) then (1 : Int32) else (0 : Int32))
theorem own_l_cases (i : Int32) : own_l i = 0 ∨ own_l i = 1 ∨ own_l i = 2 := by
  unfold own_l
  generalize XT.ushr i (16 : Int32) = y
  have hm : (y &&& 3).toInt = y.toInt % (2 ^ 2 : Nat) := c_mask y 3 2 (by decide) (by decide)
  have h0 : 0 ≤ (y &&& 3).toInt := by omega
  have e : ((y &&& 3) % (3 : Int32)).toInt = (y &&& 3).toInt % 3 := by
    rw [Int32.toInt_mod]
    exact Int.tmod_eq_emod_of_nonneg h0
  have h : ((y &&& 3) % (3 : Int32)).toInt = 0 ∨ ((y &&& 3) % (3 : Int32)).toInt = 1 ∨ ((y &&& 3) % (3 : Int32)).toInt = 2 := by omega
  rcases h with h | h | h
  · exact Or.inl (Int32.toInt_inj.mp h)
  · exact Or.inr (Or.inl (Int32.toInt_inj.mp h))
  · exact Or.inr (Or.inr (Int32.toInt_inj.mp h))
theorem own_lb_cases (i1 i3 i5 : Int32) : own_lb i1 i3 i5 = 0 ∨ own_lb i1 i3 i5 = 1 ∨ own_lb i1 i3 i5 = 2 := by
  unfold own_lb
  split <;> exact own_l_cases _
theorem own_kb_cases (i2 i4 i5 : Int32) : own_kb i2 i4 i5 = 0 ∨ own_kb i2 i4 i5 = 1 ∨ own_kb i2 i4 i5 = 2 := by
  unfold own_kb
  split <;> exact own_l_cases _
theorem own_same (l a b l' a' b' : Int32) (h : l = 0 ∨ l = 1 ∨ l = 2) (h' : l' = 0 ∨ l' = 1 ∨ l' = 2) : f3 l a b l' a' b' = own_eq (own_cs l a b) (own_cs l' a' b') := by
  unfold f3 own_eq own_cs
  rcases h with h | h | h <;> rcases h' with g | g | g <;> subst h g <;> simp +decide only [if_true, if_false]
  all_goals
    by_cases e0 : a = a' <;> by_cases e1 : b = b' <;> simp [e0, e1]
theorem own_law (i1 i2 i3 i4 i5 i6 : Int32) : f0 i1 i2 i3 i4 i5 i6 = 1 := by
  unfold f0 f6 own_exp
  simp only [own_same _ _ _ _ _ _ (own_l_cases i1) (own_lb_cases i1 i3 i5), own_same _ _ _ _ _ _ (own_l_cases i2) (own_kb_cases i2 i4 i5), if_true]
set_option maxRecDepth 65536 in
set_option maxHeartbeats 40000000 in
theorem rm0 (l : Launch) (Z : State) (a0 : Array Value) (hw : ∀ d ∈ tables_1, d.before a0 Z = true) (ws : List Jvm.Cond) (i1 : Int32) (i2 : Int32) (i3 : Int32) (i4 : Int32) (i5 : Int32) (i6 : Int32)  (h0 : Heap) (n0 : Nat) (Z0 : n0 ≤ h0.size) (ic : Int32) (SC : Sta Z Z.heap "java/lang/String" "COMPACT_STRINGS" "Z" (.int ic)) (hz : ¬ ic = 0) (O0 : Old Z n0 h0) (hheld : Jvm.Lit.constHeld Z "java/lang/String" 7) (hcw : Jvm.Lit.compactW.before a0 Z = true) :
    own_MetW l x code maxLocals ret room_1 ws #[(.int i1), (.int i2), (.int i3), (.int i4), (.int i5), (.int i6)] Z h0 (fun vm => own_LO Z vm h0 h0.size) 48 1216 (fun v h vm L => v = some (.int (f0 i1 i2 i3 i4 i5 i6)) ∧ Fr n0 L) := by
  refine own_metW (plainFor_of_name pn1) ?_
  intro p e s m below meth c s₁ hx hby hml hown hnm hret hlk hZ hh0 e0 LO0 hS0 X0
  have hml : c.maxLocals = 25 := hml
  have N0 := Fr.nil n0
  have K0 := Keep.refl h0 []
  have hws : ∀ d ∈ StrChars.Road.words, d.before a0 Z = true := fun d hd => hw d ((by decide +kernel : ∀ d ∈ StrChars.Road.words, d ∈ tables_1) d hd)
  have hwe : ∀ d ∈ StrChars.Road.wordsEq, d.before a0 Z = true := fun d hd => hw d ((by decide +kernel : ∀ d ∈ StrChars.Road.wordsEq, d ∈ tables_1) d hd)
  refine own_go (fun _ k => castTop (ef0 m i1 i2 i3 i4 i5 i6) k) ?_
  show own_Fin p.tables e below _ (s₁.setTop (mkF m 0 #[.val (.int i1), .val (.int i2), .val (.int i3), .val (.int i4), .val (.int i5), .val (.int i6), .unset, .unset, .unset, .unset, .unset, .unset, .unset, .unset, .unset, .unset, .unset, .unset, .unset, .unset, .unset, .unset, .unset, .unset, .unset] []))
  refine own_go (fun _ k => XS.iloadN X0.here hx rfl (hb hby at_0) rfl k) ?_
  show own_Fin p.tables e below _ (s₁.setTop (mkF m 1 #[.val (.int i1), .val (.int i2), .val (.int i3), .val (.int i4), .val (.int i5), .val (.int i6), .unset, .unset, .unset, .unset, .unset, .unset, .unset, .unset, .unset, .unset, .unset, .unset, .unset, .unset, .unset, .unset, .unset, .unset, .unset] [(.int i1)]))
  refine own_go (fun _ k => XT.bipushV X0.here hx rfl (16 : Int32) (hb hby at_1) (by decide) k) ?_
  show own_Fin p.tables e below _ (s₁.setTop (mkF m 3 #[.val (.int i1), .val (.int i2), .val (.int i3), .val (.int i4), .val (.int i5), .val (.int i6), .unset, .unset, .unset, .unset, .unset, .unset, .unset, .unset, .unset, .unset, .unset, .unset, .unset, .unset, .unset, .unset, .unset, .unset, .unset] [(.int (16 : Int32)), (.int i1)]))
  refine own_go (fun _ k => XT.iushr X0.here hx rfl (hb hby at_3) rfl k) ?_
  show own_Fin p.tables e below _ (s₁.setTop (mkF m 4 #[.val (.int i1), .val (.int i2), .val (.int i3), .val (.int i4), .val (.int i5), .val (.int i6), .unset, .unset, .unset, .unset, .unset, .unset, .unset, .unset, .unset, .unset, .unset, .unset, .unset, .unset, .unset, .unset, .unset, .unset, .unset] [(.int (XT.ushr i1 (16 : Int32)))]))
  refine own_go (fun _ k => XT.iconstV X0.here hx rfl (3 : Int32) (hb hby at_4) (by decide) k) ?_
  show own_Fin p.tables e below _ (s₁.setTop (mkF m 5 #[.val (.int i1), .val (.int i2), .val (.int i3), .val (.int i4), .val (.int i5), .val (.int i6), .unset, .unset, .unset, .unset, .unset, .unset, .unset, .unset, .unset, .unset, .unset, .unset, .unset, .unset, .unset, .unset, .unset, .unset, .unset] [(.int (3 : Int32)), (.int (XT.ushr i1 (16 : Int32)))]))
  refine own_go (fun _ k => XS.iand X0.here hx rfl (hb hby at_5) rfl k) ?_
  show own_Fin p.tables e below _ (s₁.setTop (mkF m 6 #[.val (.int i1), .val (.int i2), .val (.int i3), .val (.int i4), .val (.int i5), .val (.int i6), .unset, .unset, .unset, .unset, .unset, .unset, .unset, .unset, .unset, .unset, .unset, .unset, .unset, .unset, .unset, .unset, .unset, .unset, .unset] [(.int ((XT.ushr i1 (16 : Int32)) &&& (3 : Int32)))]))
  refine own_go (fun _ k => XT.iconstV X0.here hx rfl (3 : Int32) (hb hby at_6) (by decide) k) ?_
  show own_Fin p.tables e below _ (s₁.setTop (mkF m 7 #[.val (.int i1), .val (.int i2), .val (.int i3), .val (.int i4), .val (.int i5), .val (.int i6), .unset, .unset, .unset, .unset, .unset, .unset, .unset, .unset, .unset, .unset, .unset, .unset, .unset, .unset, .unset, .unset, .unset, .unset, .unset] [(.int (3 : Int32)), (.int ((XT.ushr i1 (16 : Int32)) &&& (3 : Int32)))]))
  refine own_go (fun _ k => iremM X0 hx rfl (hb hby at_7) rfl (by decide) k) ?_
  show own_Fin p.tables e below _ (s₁.setTop (mkF m 8 #[.val (.int i1), .val (.int i2), .val (.int i3), .val (.int i4), .val (.int i5), .val (.int i6), .unset, .unset, .unset, .unset, .unset, .unset, .unset, .unset, .unset, .unset, .unset, .unset, .unset, .unset, .unset, .unset, .unset, .unset, .unset] [(.int (((XT.ushr i1 (16 : Int32)) &&& (3 : Int32)) % (3 : Int32)))]))
  refine own_go (fun _ k => XS.istore X0.here hx rfl (hb hby at_8) rfl (l' := #[.val (.int i1), .val (.int i2), .val (.int i3), .val (.int i4), .val (.int i5), .val (.int i6), .val (.int (own_l i1)), .unset, .unset, .unset, .unset, .unset, .unset, .unset, .unset, .unset, .unset, .unset, .unset, .unset, .unset, .unset, .unset, .unset, .unset]) rfl k) ?_
  show own_Fin p.tables e below _ (s₁.setTop (mkF m 10 #[.val (.int i1), .val (.int i2), .val (.int i3), .val (.int i4), .val (.int i5), .val (.int i6), .val (.int (own_l i1)), .unset, .unset, .unset, .unset, .unset, .unset, .unset, .unset, .unset, .unset, .unset, .unset, .unset, .unset, .unset, .unset, .unset, .unset] []))
  refine own_go (fun _ k => XS.iloadN X0.here hx rfl (hb hby at_10) rfl k) ?_
  show own_Fin p.tables e below _ (s₁.setTop (mkF m 11 #[.val (.int i1), .val (.int i2), .val (.int i3), .val (.int i4), .val (.int i5), .val (.int i6), .val (.int (own_l i1)), .unset, .unset, .unset, .unset, .unset, .unset, .unset, .unset, .unset, .unset, .unset, .unset, .unset, .unset, .unset, .unset, .unset, .unset] [(.int i1)]))
  refine own_go (fun _ k => XT.sipushV X0.here hx rfl (255 : Int32) (hb hby at_11) (by decide) k) ?_
  show own_Fin p.tables e below _ (s₁.setTop (mkF m 14 #[.val (.int i1), .val (.int i2), .val (.int i3), .val (.int i4), .val (.int i5), .val (.int i6), .val (.int (own_l i1)), .unset, .unset, .unset, .unset, .unset, .unset, .unset, .unset, .unset, .unset, .unset, .unset, .unset, .unset, .unset, .unset, .unset, .unset] [(.int (255 : Int32)), (.int i1)]))
  refine own_go (fun _ k => XS.iand X0.here hx rfl (hb hby at_14) rfl k) ?_
  show own_Fin p.tables e below _ (s₁.setTop (mkF m 15 #[.val (.int i1), .val (.int i2), .val (.int i3), .val (.int i4), .val (.int i5), .val (.int i6), .val (.int (own_l i1)), .unset, .unset, .unset, .unset, .unset, .unset, .unset, .unset, .unset, .unset, .unset, .unset, .unset, .unset, .unset, .unset, .unset, .unset] [(.int (i1 &&& (255 : Int32)))]))
  refine own_go (fun _ k => XT.i2c X0.here hx rfl (hb hby at_15) rfl k) ?_
  show own_Fin p.tables e below _ (s₁.setTop (mkF m 16 #[.val (.int i1), .val (.int i2), .val (.int i3), .val (.int i4), .val (.int i5), .val (.int i6), .val (.int (own_l i1)), .unset, .unset, .unset, .unset, .unset, .unset, .unset, .unset, .unset, .unset, .unset, .unset, .unset, .unset, .unset, .unset, .unset, .unset] [(.int ((i1 &&& (255 : Int32)).toUInt32.toUInt16.toUInt32.toInt32))]))
  refine own_go (fun _ k => XS.istore X0.here hx rfl (hb hby at_16) rfl (l' := #[.val (.int i1), .val (.int i2), .val (.int i3), .val (.int i4), .val (.int i5), .val (.int i6), .val (.int (own_l i1)), .val (.int (own_lo i1)), .unset, .unset, .unset, .unset, .unset, .unset, .unset, .unset, .unset, .unset, .unset, .unset, .unset, .unset, .unset, .unset, .unset]) rfl k) ?_
  show own_Fin p.tables e below _ (s₁.setTop (mkF m 18 #[.val (.int i1), .val (.int i2), .val (.int i3), .val (.int i4), .val (.int i5), .val (.int i6), .val (.int (own_l i1)), .val (.int (own_lo i1)), .unset, .unset, .unset, .unset, .unset, .unset, .unset, .unset, .unset, .unset, .unset, .unset, .unset, .unset, .unset, .unset, .unset] []))
  refine own_go (fun _ k => XS.iloadN X0.here hx rfl (hb hby at_18) rfl k) ?_
  show own_Fin p.tables e below _ (s₁.setTop (mkF m 19 #[.val (.int i1), .val (.int i2), .val (.int i3), .val (.int i4), .val (.int i5), .val (.int i6), .val (.int (own_l i1)), .val (.int (own_lo i1)), .unset, .unset, .unset, .unset, .unset, .unset, .unset, .unset, .unset, .unset, .unset, .unset, .unset, .unset, .unset, .unset, .unset] [(.int i1)]))
  refine own_go (fun _ k => XT.bipushV X0.here hx rfl (8 : Int32) (hb hby at_19) (by decide) k) ?_
  show own_Fin p.tables e below _ (s₁.setTop (mkF m 21 #[.val (.int i1), .val (.int i2), .val (.int i3), .val (.int i4), .val (.int i5), .val (.int i6), .val (.int (own_l i1)), .val (.int (own_lo i1)), .unset, .unset, .unset, .unset, .unset, .unset, .unset, .unset, .unset, .unset, .unset, .unset, .unset, .unset, .unset, .unset, .unset] [(.int (8 : Int32)), (.int i1)]))
  refine own_go (fun _ k => XT.iushr X0.here hx rfl (hb hby at_21) rfl k) ?_
  show own_Fin p.tables e below _ (s₁.setTop (mkF m 22 #[.val (.int i1), .val (.int i2), .val (.int i3), .val (.int i4), .val (.int i5), .val (.int i6), .val (.int (own_l i1)), .val (.int (own_lo i1)), .unset, .unset, .unset, .unset, .unset, .unset, .unset, .unset, .unset, .unset, .unset, .unset, .unset, .unset, .unset, .unset, .unset] [(.int (XT.ushr i1 (8 : Int32)))]))
  refine own_go (fun _ k => XT.sipushV X0.here hx rfl (255 : Int32) (hb hby at_22) (by decide) k) ?_
  show own_Fin p.tables e below _ (s₁.setTop (mkF m 25 #[.val (.int i1), .val (.int i2), .val (.int i3), .val (.int i4), .val (.int i5), .val (.int i6), .val (.int (own_l i1)), .val (.int (own_lo i1)), .unset, .unset, .unset, .unset, .unset, .unset, .unset, .unset, .unset, .unset, .unset, .unset, .unset, .unset, .unset, .unset, .unset] [(.int (255 : Int32)), (.int (XT.ushr i1 (8 : Int32)))]))
  refine own_go (fun _ k => XS.iand X0.here hx rfl (hb hby at_25) rfl k) ?_
  show own_Fin p.tables e below _ (s₁.setTop (mkF m 26 #[.val (.int i1), .val (.int i2), .val (.int i3), .val (.int i4), .val (.int i5), .val (.int i6), .val (.int (own_l i1)), .val (.int (own_lo i1)), .unset, .unset, .unset, .unset, .unset, .unset, .unset, .unset, .unset, .unset, .unset, .unset, .unset, .unset, .unset, .unset, .unset] [(.int ((XT.ushr i1 (8 : Int32)) &&& (255 : Int32)))]))
  refine own_go (fun _ k => XT.i2c X0.here hx rfl (hb hby at_26) rfl k) ?_
  show own_Fin p.tables e below _ (s₁.setTop (mkF m 27 #[.val (.int i1), .val (.int i2), .val (.int i3), .val (.int i4), .val (.int i5), .val (.int i6), .val (.int (own_l i1)), .val (.int (own_lo i1)), .unset, .unset, .unset, .unset, .unset, .unset, .unset, .unset, .unset, .unset, .unset, .unset, .unset, .unset, .unset, .unset, .unset] [(.int (((XT.ushr i1 (8 : Int32)) &&& (255 : Int32)).toUInt32.toUInt16.toUInt32.toInt32))]))
  refine own_go (fun _ k => XS.istore X0.here hx rfl (hb hby at_27) rfl (l' := #[.val (.int i1), .val (.int i2), .val (.int i3), .val (.int i4), .val (.int i5), .val (.int i6), .val (.int (own_l i1)), .val (.int (own_lo i1)), .val (.int (own_hi i1)), .unset, .unset, .unset, .unset, .unset, .unset, .unset, .unset, .unset, .unset, .unset, .unset, .unset, .unset, .unset, .unset]) rfl k) ?_
  show own_Fin p.tables e below _ (s₁.setTop (mkF m 29 #[.val (.int i1), .val (.int i2), .val (.int i3), .val (.int i4), .val (.int i5), .val (.int i6), .val (.int (own_l i1)), .val (.int (own_lo i1)), .val (.int (own_hi i1)), .unset, .unset, .unset, .unset, .unset, .unset, .unset, .unset, .unset, .unset, .unset, .unset, .unset, .unset, .unset, .unset] []))
  refine own_go (fun _ k => XS.iloadN X0.here hx rfl (hb hby at_29) rfl k) ?_
  show own_Fin p.tables e below _ (s₁.setTop (mkF m 30 #[.val (.int i1), .val (.int i2), .val (.int i3), .val (.int i4), .val (.int i5), .val (.int i6), .val (.int (own_l i1)), .val (.int (own_lo i1)), .val (.int (own_hi i1)), .unset, .unset, .unset, .unset, .unset, .unset, .unset, .unset, .unset, .unset, .unset, .unset, .unset, .unset, .unset, .unset] [(.int i2)]))
  refine own_go (fun _ k => XT.bipushV X0.here hx rfl (16 : Int32) (hb hby at_30) (by decide) k) ?_
  show own_Fin p.tables e below _ (s₁.setTop (mkF m 32 #[.val (.int i1), .val (.int i2), .val (.int i3), .val (.int i4), .val (.int i5), .val (.int i6), .val (.int (own_l i1)), .val (.int (own_lo i1)), .val (.int (own_hi i1)), .unset, .unset, .unset, .unset, .unset, .unset, .unset, .unset, .unset, .unset, .unset, .unset, .unset, .unset, .unset, .unset] [(.int (16 : Int32)), (.int i2)]))
  refine own_go (fun _ k => XT.iushr X0.here hx rfl (hb hby at_32) rfl k) ?_
  show own_Fin p.tables e below _ (s₁.setTop (mkF m 33 #[.val (.int i1), .val (.int i2), .val (.int i3), .val (.int i4), .val (.int i5), .val (.int i6), .val (.int (own_l i1)), .val (.int (own_lo i1)), .val (.int (own_hi i1)), .unset, .unset, .unset, .unset, .unset, .unset, .unset, .unset, .unset, .unset, .unset, .unset, .unset, .unset, .unset, .unset] [(.int (XT.ushr i2 (16 : Int32)))]))
  refine own_go (fun _ k => XT.iconstV X0.here hx rfl (3 : Int32) (hb hby at_33) (by decide) k) ?_
  show own_Fin p.tables e below _ (s₁.setTop (mkF m 34 #[.val (.int i1), .val (.int i2), .val (.int i3), .val (.int i4), .val (.int i5), .val (.int i6), .val (.int (own_l i1)), .val (.int (own_lo i1)), .val (.int (own_hi i1)), .unset, .unset, .unset, .unset, .unset, .unset, .unset, .unset, .unset, .unset, .unset, .unset, .unset, .unset, .unset, .unset] [(.int (3 : Int32)), (.int (XT.ushr i2 (16 : Int32)))]))
  refine own_go (fun _ k => XS.iand X0.here hx rfl (hb hby at_34) rfl k) ?_
  show own_Fin p.tables e below _ (s₁.setTop (mkF m 35 #[.val (.int i1), .val (.int i2), .val (.int i3), .val (.int i4), .val (.int i5), .val (.int i6), .val (.int (own_l i1)), .val (.int (own_lo i1)), .val (.int (own_hi i1)), .unset, .unset, .unset, .unset, .unset, .unset, .unset, .unset, .unset, .unset, .unset, .unset, .unset, .unset, .unset, .unset] [(.int ((XT.ushr i2 (16 : Int32)) &&& (3 : Int32)))]))
  refine own_go (fun _ k => XT.iconstV X0.here hx rfl (3 : Int32) (hb hby at_35) (by decide) k) ?_
  show own_Fin p.tables e below _ (s₁.setTop (mkF m 36 #[.val (.int i1), .val (.int i2), .val (.int i3), .val (.int i4), .val (.int i5), .val (.int i6), .val (.int (own_l i1)), .val (.int (own_lo i1)), .val (.int (own_hi i1)), .unset, .unset, .unset, .unset, .unset, .unset, .unset, .unset, .unset, .unset, .unset, .unset, .unset, .unset, .unset, .unset] [(.int (3 : Int32)), (.int ((XT.ushr i2 (16 : Int32)) &&& (3 : Int32)))]))
  refine own_go (fun _ k => iremM X0 hx rfl (hb hby at_36) rfl (by decide) k) ?_
  show own_Fin p.tables e below _ (s₁.setTop (mkF m 37 #[.val (.int i1), .val (.int i2), .val (.int i3), .val (.int i4), .val (.int i5), .val (.int i6), .val (.int (own_l i1)), .val (.int (own_lo i1)), .val (.int (own_hi i1)), .unset, .unset, .unset, .unset, .unset, .unset, .unset, .unset, .unset, .unset, .unset, .unset, .unset, .unset, .unset, .unset] [(.int (((XT.ushr i2 (16 : Int32)) &&& (3 : Int32)) % (3 : Int32)))]))
  refine own_go (fun _ k => XS.istore X0.here hx rfl (hb hby at_37) rfl (l' := #[.val (.int i1), .val (.int i2), .val (.int i3), .val (.int i4), .val (.int i5), .val (.int i6), .val (.int (own_l i1)), .val (.int (own_lo i1)), .val (.int (own_hi i1)), .val (.int (own_l i2)), .unset, .unset, .unset, .unset, .unset, .unset, .unset, .unset, .unset, .unset, .unset, .unset, .unset, .unset, .unset]) rfl k) ?_
  show own_Fin p.tables e below _ (s₁.setTop (mkF m 39 #[.val (.int i1), .val (.int i2), .val (.int i3), .val (.int i4), .val (.int i5), .val (.int i6), .val (.int (own_l i1)), .val (.int (own_lo i1)), .val (.int (own_hi i1)), .val (.int (own_l i2)), .unset, .unset, .unset, .unset, .unset, .unset, .unset, .unset, .unset, .unset, .unset, .unset, .unset, .unset, .unset] []))
  refine own_go (fun _ k => XS.iloadN X0.here hx rfl (hb hby at_39) rfl k) ?_
  show own_Fin p.tables e below _ (s₁.setTop (mkF m 40 #[.val (.int i1), .val (.int i2), .val (.int i3), .val (.int i4), .val (.int i5), .val (.int i6), .val (.int (own_l i1)), .val (.int (own_lo i1)), .val (.int (own_hi i1)), .val (.int (own_l i2)), .unset, .unset, .unset, .unset, .unset, .unset, .unset, .unset, .unset, .unset, .unset, .unset, .unset, .unset, .unset] [(.int i2)]))
  refine own_go (fun _ k => XT.sipushV X0.here hx rfl (255 : Int32) (hb hby at_40) (by decide) k) ?_
  show own_Fin p.tables e below _ (s₁.setTop (mkF m 43 #[.val (.int i1), .val (.int i2), .val (.int i3), .val (.int i4), .val (.int i5), .val (.int i6), .val (.int (own_l i1)), .val (.int (own_lo i1)), .val (.int (own_hi i1)), .val (.int (own_l i2)), .unset, .unset, .unset, .unset, .unset, .unset, .unset, .unset, .unset, .unset, .unset, .unset, .unset, .unset, .unset] [(.int (255 : Int32)), (.int i2)]))
  refine own_go (fun _ k => XS.iand X0.here hx rfl (hb hby at_43) rfl k) ?_
  show own_Fin p.tables e below _ (s₁.setTop (mkF m 44 #[.val (.int i1), .val (.int i2), .val (.int i3), .val (.int i4), .val (.int i5), .val (.int i6), .val (.int (own_l i1)), .val (.int (own_lo i1)), .val (.int (own_hi i1)), .val (.int (own_l i2)), .unset, .unset, .unset, .unset, .unset, .unset, .unset, .unset, .unset, .unset, .unset, .unset, .unset, .unset, .unset] [(.int (i2 &&& (255 : Int32)))]))
  refine own_go (fun _ k => XT.i2c X0.here hx rfl (hb hby at_44) rfl k) ?_
  show own_Fin p.tables e below _ (s₁.setTop (mkF m 45 #[.val (.int i1), .val (.int i2), .val (.int i3), .val (.int i4), .val (.int i5), .val (.int i6), .val (.int (own_l i1)), .val (.int (own_lo i1)), .val (.int (own_hi i1)), .val (.int (own_l i2)), .unset, .unset, .unset, .unset, .unset, .unset, .unset, .unset, .unset, .unset, .unset, .unset, .unset, .unset, .unset] [(.int ((i2 &&& (255 : Int32)).toUInt32.toUInt16.toUInt32.toInt32))]))
  refine own_go (fun _ k => XS.istore X0.here hx rfl (hb hby at_45) rfl (l' := #[.val (.int i1), .val (.int i2), .val (.int i3), .val (.int i4), .val (.int i5), .val (.int i6), .val (.int (own_l i1)), .val (.int (own_lo i1)), .val (.int (own_hi i1)), .val (.int (own_l i2)), .val (.int (own_lo i2)), .unset, .unset, .unset, .unset, .unset, .unset, .unset, .unset, .unset, .unset, .unset, .unset, .unset, .unset]) rfl k) ?_
  show own_Fin p.tables e below _ (s₁.setTop (mkF m 47 #[.val (.int i1), .val (.int i2), .val (.int i3), .val (.int i4), .val (.int i5), .val (.int i6), .val (.int (own_l i1)), .val (.int (own_lo i1)), .val (.int (own_hi i1)), .val (.int (own_l i2)), .val (.int (own_lo i2)), .unset, .unset, .unset, .unset, .unset, .unset, .unset, .unset, .unset, .unset, .unset, .unset, .unset, .unset] []))
  refine own_go (fun _ k => XS.iloadN X0.here hx rfl (hb hby at_47) rfl k) ?_
  show own_Fin p.tables e below _ (s₁.setTop (mkF m 48 #[.val (.int i1), .val (.int i2), .val (.int i3), .val (.int i4), .val (.int i5), .val (.int i6), .val (.int (own_l i1)), .val (.int (own_lo i1)), .val (.int (own_hi i1)), .val (.int (own_l i2)), .val (.int (own_lo i2)), .unset, .unset, .unset, .unset, .unset, .unset, .unset, .unset, .unset, .unset, .unset, .unset, .unset, .unset] [(.int i2)]))
  refine own_go (fun _ k => XT.bipushV X0.here hx rfl (8 : Int32) (hb hby at_48) (by decide) k) ?_
  show own_Fin p.tables e below _ (s₁.setTop (mkF m 50 #[.val (.int i1), .val (.int i2), .val (.int i3), .val (.int i4), .val (.int i5), .val (.int i6), .val (.int (own_l i1)), .val (.int (own_lo i1)), .val (.int (own_hi i1)), .val (.int (own_l i2)), .val (.int (own_lo i2)), .unset, .unset, .unset, .unset, .unset, .unset, .unset, .unset, .unset, .unset, .unset, .unset, .unset, .unset] [(.int (8 : Int32)), (.int i2)]))
  refine own_go (fun _ k => XT.iushr X0.here hx rfl (hb hby at_50) rfl k) ?_
  show own_Fin p.tables e below _ (s₁.setTop (mkF m 51 #[.val (.int i1), .val (.int i2), .val (.int i3), .val (.int i4), .val (.int i5), .val (.int i6), .val (.int (own_l i1)), .val (.int (own_lo i1)), .val (.int (own_hi i1)), .val (.int (own_l i2)), .val (.int (own_lo i2)), .unset, .unset, .unset, .unset, .unset, .unset, .unset, .unset, .unset, .unset, .unset, .unset, .unset, .unset] [(.int (XT.ushr i2 (8 : Int32)))]))
  refine own_go (fun _ k => XT.sipushV X0.here hx rfl (255 : Int32) (hb hby at_51) (by decide) k) ?_
  show own_Fin p.tables e below _ (s₁.setTop (mkF m 54 #[.val (.int i1), .val (.int i2), .val (.int i3), .val (.int i4), .val (.int i5), .val (.int i6), .val (.int (own_l i1)), .val (.int (own_lo i1)), .val (.int (own_hi i1)), .val (.int (own_l i2)), .val (.int (own_lo i2)), .unset, .unset, .unset, .unset, .unset, .unset, .unset, .unset, .unset, .unset, .unset, .unset, .unset, .unset] [(.int (255 : Int32)), (.int (XT.ushr i2 (8 : Int32)))]))
  refine own_go (fun _ k => XS.iand X0.here hx rfl (hb hby at_54) rfl k) ?_
  show own_Fin p.tables e below _ (s₁.setTop (mkF m 55 #[.val (.int i1), .val (.int i2), .val (.int i3), .val (.int i4), .val (.int i5), .val (.int i6), .val (.int (own_l i1)), .val (.int (own_lo i1)), .val (.int (own_hi i1)), .val (.int (own_l i2)), .val (.int (own_lo i2)), .unset, .unset, .unset, .unset, .unset, .unset, .unset, .unset, .unset, .unset, .unset, .unset, .unset, .unset] [(.int ((XT.ushr i2 (8 : Int32)) &&& (255 : Int32)))]))
  refine own_go (fun _ k => XT.i2c X0.here hx rfl (hb hby at_55) rfl k) ?_
  show own_Fin p.tables e below _ (s₁.setTop (mkF m 56 #[.val (.int i1), .val (.int i2), .val (.int i3), .val (.int i4), .val (.int i5), .val (.int i6), .val (.int (own_l i1)), .val (.int (own_lo i1)), .val (.int (own_hi i1)), .val (.int (own_l i2)), .val (.int (own_lo i2)), .unset, .unset, .unset, .unset, .unset, .unset, .unset, .unset, .unset, .unset, .unset, .unset, .unset, .unset] [(.int (((XT.ushr i2 (8 : Int32)) &&& (255 : Int32)).toUInt32.toUInt16.toUInt32.toInt32))]))
  refine own_go (fun _ k => XS.istore X0.here hx rfl (hb hby at_56) rfl (l' := #[.val (.int i1), .val (.int i2), .val (.int i3), .val (.int i4), .val (.int i5), .val (.int i6), .val (.int (own_l i1)), .val (.int (own_lo i1)), .val (.int (own_hi i1)), .val (.int (own_l i2)), .val (.int (own_lo i2)), .val (.int (own_hi i2)), .unset, .unset, .unset, .unset, .unset, .unset, .unset, .unset, .unset, .unset, .unset, .unset, .unset]) rfl k) ?_
  show own_Fin p.tables e below _ (s₁.setTop (mkF m 58 #[.val (.int i1), .val (.int i2), .val (.int i3), .val (.int i4), .val (.int i5), .val (.int i6), .val (.int (own_l i1)), .val (.int (own_lo i1)), .val (.int (own_hi i1)), .val (.int (own_l i2)), .val (.int (own_lo i2)), .val (.int (own_hi i2)), .unset, .unset, .unset, .unset, .unset, .unset, .unset, .unset, .unset, .unset, .unset, .unset, .unset] []))
  obtain ⟨_, ⟨T1, L1, X1, N1, e1, rfl⟩, st1⟩ : own_Go p.tables e below (fun t => ∃ T' L', Stand p l e room_1 (s.setVm s.vm) m #[(.int i1), (.int i2), (.int i3), (.int i4), (.int i5), (.int i6)] below meth c T' L' 0 0 ∧ Fr n0 L' ∧ T'.heap = h0 ∧ t = T'.setTop (mkF m 78 #[.val (.int i1), .val (.int i2), .val (.int i3), .val (.int i4), .val (.int i5), .val (.int i6), .val (.int (own_l i1)), .val (.int (own_lo i1)), .val (.int (own_hi i1)), .val (.int (own_l i2)), .val (.int (own_lo i2)), .val (.int (own_hi i2)), .unset, .unset, .unset, .unset, .unset, .unset, .unset, .unset, .unset, .unset, .unset, .unset, .unset] [(.int (own_lb i1 i3 i5))])) (s₁.setTop (mkF m 58 #[.val (.int i1), .val (.int i2), .val (.int i3), .val (.int i4), .val (.int i5), .val (.int i6), .val (.int (own_l i1)), .val (.int (own_lo i1)), .val (.int (own_hi i1)), .val (.int (own_l i2)), .val (.int (own_lo i2)), .val (.int (own_hi i2)), .unset, .unset, .unset, .unset, .unset, .unset, .unset, .unset, .unset, .unset, .unset, .unset, .unset] [])) := by
    refine own_on (fun _ k => XS.iload X0.here hx rfl (hb hby at_58) rfl k) ?_
    show own_Go p.tables e below _ (s₁.setTop (mkF m 60 #[.val (.int i1), .val (.int i2), .val (.int i3), .val (.int i4), .val (.int i5), .val (.int i6), .val (.int (own_l i1)), .val (.int (own_lo i1)), .val (.int (own_hi i1)), .val (.int (own_l i2)), .val (.int (own_lo i2)), .val (.int (own_hi i2)), .unset, .unset, .unset, .unset, .unset, .unset, .unset, .unset, .unset, .unset, .unset, .unset, .unset] [(.int i5)]))
    refine own_on (fun _ k => XT.iconstV X0.here hx rfl (1 : Int32) (hb hby at_60) (by decide) k) ?_
    show own_Go p.tables e below _ (s₁.setTop (mkF m 61 #[.val (.int i1), .val (.int i2), .val (.int i3), .val (.int i4), .val (.int i5), .val (.int i6), .val (.int (own_l i1)), .val (.int (own_lo i1)), .val (.int (own_hi i1)), .val (.int (own_l i2)), .val (.int (own_lo i2)), .val (.int (own_hi i2)), .unset, .unset, .unset, .unset, .unset, .unset, .unset, .unset, .unset, .unset, .unset, .unset, .unset] [(.int (1 : Int32)), (.int i5)]))
    refine own_on (fun _ k => XS.iand X0.here hx rfl (hb hby at_61) rfl k) ?_
    show own_Go p.tables e below _ (s₁.setTop (mkF m 62 #[.val (.int i1), .val (.int i2), .val (.int i3), .val (.int i4), .val (.int i5), .val (.int i6), .val (.int (own_l i1)), .val (.int (own_lo i1)), .val (.int (own_hi i1)), .val (.int (own_l i2)), .val (.int (own_lo i2)), .val (.int (own_hi i2)), .unset, .unset, .unset, .unset, .unset, .unset, .unset, .unset, .unset, .unset, .unset, .unset, .unset] [(.int (i5 &&& (1 : Int32)))]))
    by_cases hc2 : (i5 &&& (1 : Int32)) = (0 : Int32)
    · refine own_on (fun _ k => XS.ifYes X0.here hx rfl (pc0 := 62) (pc' := 70) rfl (hb hby at_62) rfl (XT.i0_eq_t hc2) (by decide) (by decide) k) ?_
      show own_Go p.tables e below _ (s₁.setTop (mkF m 70 #[.val (.int i1), .val (.int i2), .val (.int i3), .val (.int i4), .val (.int i5), .val (.int i6), .val (.int (own_l i1)), .val (.int (own_lo i1)), .val (.int (own_hi i1)), .val (.int (own_l i2)), .val (.int (own_lo i2)), .val (.int (own_hi i2)), .unset, .unset, .unset, .unset, .unset, .unset, .unset, .unset, .unset, .unset, .unset, .unset, .unset] []))
      refine own_on (fun _ k => XS.iloadN X0.here hx rfl (hb hby at_70) rfl k) ?_
      show own_Go p.tables e below _ (s₁.setTop (mkF m 71 #[.val (.int i1), .val (.int i2), .val (.int i3), .val (.int i4), .val (.int i5), .val (.int i6), .val (.int (own_l i1)), .val (.int (own_lo i1)), .val (.int (own_hi i1)), .val (.int (own_l i2)), .val (.int (own_lo i2)), .val (.int (own_hi i2)), .unset, .unset, .unset, .unset, .unset, .unset, .unset, .unset, .unset, .unset, .unset, .unset, .unset] [(.int i3)]))
      refine own_on (fun _ k => XT.bipushV X0.here hx rfl (16 : Int32) (hb hby at_71) (by decide) k) ?_
      show own_Go p.tables e below _ (s₁.setTop (mkF m 73 #[.val (.int i1), .val (.int i2), .val (.int i3), .val (.int i4), .val (.int i5), .val (.int i6), .val (.int (own_l i1)), .val (.int (own_lo i1)), .val (.int (own_hi i1)), .val (.int (own_l i2)), .val (.int (own_lo i2)), .val (.int (own_hi i2)), .unset, .unset, .unset, .unset, .unset, .unset, .unset, .unset, .unset, .unset, .unset, .unset, .unset] [(.int (16 : Int32)), (.int i3)]))
      refine own_on (fun _ k => XT.iushr X0.here hx rfl (hb hby at_73) rfl k) ?_
      show own_Go p.tables e below _ (s₁.setTop (mkF m 74 #[.val (.int i1), .val (.int i2), .val (.int i3), .val (.int i4), .val (.int i5), .val (.int i6), .val (.int (own_l i1)), .val (.int (own_lo i1)), .val (.int (own_hi i1)), .val (.int (own_l i2)), .val (.int (own_lo i2)), .val (.int (own_hi i2)), .unset, .unset, .unset, .unset, .unset, .unset, .unset, .unset, .unset, .unset, .unset, .unset, .unset] [(.int (XT.ushr i3 (16 : Int32)))]))
      refine own_on (fun _ k => XT.iconstV X0.here hx rfl (3 : Int32) (hb hby at_74) (by decide) k) ?_
      show own_Go p.tables e below _ (s₁.setTop (mkF m 75 #[.val (.int i1), .val (.int i2), .val (.int i3), .val (.int i4), .val (.int i5), .val (.int i6), .val (.int (own_l i1)), .val (.int (own_lo i1)), .val (.int (own_hi i1)), .val (.int (own_l i2)), .val (.int (own_lo i2)), .val (.int (own_hi i2)), .unset, .unset, .unset, .unset, .unset, .unset, .unset, .unset, .unset, .unset, .unset, .unset, .unset] [(.int (3 : Int32)), (.int (XT.ushr i3 (16 : Int32)))]))
      refine own_on (fun _ k => XS.iand X0.here hx rfl (hb hby at_75) rfl k) ?_
      show own_Go p.tables e below _ (s₁.setTop (mkF m 76 #[.val (.int i1), .val (.int i2), .val (.int i3), .val (.int i4), .val (.int i5), .val (.int i6), .val (.int (own_l i1)), .val (.int (own_lo i1)), .val (.int (own_hi i1)), .val (.int (own_l i2)), .val (.int (own_lo i2)), .val (.int (own_hi i2)), .unset, .unset, .unset, .unset, .unset, .unset, .unset, .unset, .unset, .unset, .unset, .unset, .unset] [(.int ((XT.ushr i3 (16 : Int32)) &&& (3 : Int32)))]))
      refine own_on (fun _ k => XT.iconstV X0.here hx rfl (3 : Int32) (hb hby at_76) (by decide) k) ?_
      show own_Go p.tables e below _ (s₁.setTop (mkF m 77 #[.val (.int i1), .val (.int i2), .val (.int i3), .val (.int i4), .val (.int i5), .val (.int i6), .val (.int (own_l i1)), .val (.int (own_lo i1)), .val (.int (own_hi i1)), .val (.int (own_l i2)), .val (.int (own_lo i2)), .val (.int (own_hi i2)), .unset, .unset, .unset, .unset, .unset, .unset, .unset, .unset, .unset, .unset, .unset, .unset, .unset] [(.int (3 : Int32)), (.int ((XT.ushr i3 (16 : Int32)) &&& (3 : Int32)))]))
      refine own_on (fun _ k => iremM X0 hx rfl (hb hby at_77) rfl (by decide) k) ?_
      show own_Go p.tables e below _ (s₁.setTop (mkF m 78 #[.val (.int i1), .val (.int i2), .val (.int i3), .val (.int i4), .val (.int i5), .val (.int i6), .val (.int (own_l i1)), .val (.int (own_lo i1)), .val (.int (own_hi i1)), .val (.int (own_l i2)), .val (.int (own_lo i2)), .val (.int (own_hi i2)), .unset, .unset, .unset, .unset, .unset, .unset, .unset, .unset, .unset, .unset, .unset, .unset, .unset] [(.int (((XT.ushr i3 (16 : Int32)) &&& (3 : Int32)) % (3 : Int32)))]))
      exact own_here ⟨s₁, _, X0, N0, e0, by rw [show (own_lb i1 i3 i5) = (((XT.ushr i3 (16 : Int32)) &&& (3 : Int32)) % (3 : Int32)) from by simp only [own_lb, if_pos hc2] <;> rfl]⟩
    · refine own_on (fun _ k => XS.ifNo X0.here hx rfl (hb hby at_62) rfl (XT.i0_eq_f hc2) k) ?_
      show own_Go p.tables e below _ (s₁.setTop (mkF m 65 #[.val (.int i1), .val (.int i2), .val (.int i3), .val (.int i4), .val (.int i5), .val (.int i6), .val (.int (own_l i1)), .val (.int (own_lo i1)), .val (.int (own_hi i1)), .val (.int (own_l i2)), .val (.int (own_lo i2)), .val (.int (own_hi i2)), .unset, .unset, .unset, .unset, .unset, .unset, .unset, .unset, .unset, .unset, .unset, .unset, .unset] []))
      refine own_on (fun _ k => XS.iload X0.here hx rfl (hb hby at_65) rfl k) ?_
      show own_Go p.tables e below _ (s₁.setTop (mkF m 67 #[.val (.int i1), .val (.int i2), .val (.int i3), .val (.int i4), .val (.int i5), .val (.int i6), .val (.int (own_l i1)), .val (.int (own_lo i1)), .val (.int (own_hi i1)), .val (.int (own_l i2)), .val (.int (own_lo i2)), .val (.int (own_hi i2)), .unset, .unset, .unset, .unset, .unset, .unset, .unset, .unset, .unset, .unset, .unset, .unset, .unset] [(.int (own_l i1))]))
      refine own_on (fun _ k => XS.goto X0.here hx rfl (pc0 := 67) (pc' := 78) rfl (hb hby at_67) (by decide) (by decide) k) ?_
      show own_Go p.tables e below _ (s₁.setTop (mkF m 78 #[.val (.int i1), .val (.int i2), .val (.int i3), .val (.int i4), .val (.int i5), .val (.int i6), .val (.int (own_l i1)), .val (.int (own_lo i1)), .val (.int (own_hi i1)), .val (.int (own_l i2)), .val (.int (own_lo i2)), .val (.int (own_hi i2)), .unset, .unset, .unset, .unset, .unset, .unset, .unset, .unset, .unset, .unset, .unset, .unset, .unset] [(.int (own_l i1))]))
      exact own_here ⟨s₁, _, X0, N0, e0, by rw [show (own_lb i1 i3 i5) = (own_l i1) from by simp only [own_lb, if_neg hc2] <;> rfl]⟩
  refine own_go st1 ?_
  show own_Fin p.tables e below _ (T1.setTop (mkF m 78 #[.val (.int i1), .val (.int i2), .val (.int i3), .val (.int i4), .val (.int i5), .val (.int i6), .val (.int (own_l i1)), .val (.int (own_lo i1)), .val (.int (own_hi i1)), .val (.int (own_l i2)), .val (.int (own_lo i2)), .val (.int (own_hi i2)), .unset, .unset, .unset, .unset, .unset, .unset, .unset, .unset, .unset, .unset, .unset, .unset, .unset] [(.int (own_lb i1 i3 i5))]))
  refine own_go (fun _ k => XS.istore X1.here hx rfl (hb hby at_78) rfl (l' := #[.val (.int i1), .val (.int i2), .val (.int i3), .val (.int i4), .val (.int i5), .val (.int i6), .val (.int (own_l i1)), .val (.int (own_lo i1)), .val (.int (own_hi i1)), .val (.int (own_l i2)), .val (.int (own_lo i2)), .val (.int (own_hi i2)), .val (.int (own_lb i1 i3 i5)), .unset, .unset, .unset, .unset, .unset, .unset, .unset, .unset, .unset, .unset, .unset, .unset]) rfl k) ?_
  show own_Fin p.tables e below _ (T1.setTop (mkF m 80 #[.val (.int i1), .val (.int i2), .val (.int i3), .val (.int i4), .val (.int i5), .val (.int i6), .val (.int (own_l i1)), .val (.int (own_lo i1)), .val (.int (own_hi i1)), .val (.int (own_l i2)), .val (.int (own_lo i2)), .val (.int (own_hi i2)), .val (.int (own_lb i1 i3 i5)), .unset, .unset, .unset, .unset, .unset, .unset, .unset, .unset, .unset, .unset, .unset, .unset] []))
  obtain ⟨_, ⟨T3, L3, X3, N3, e3, rfl⟩, st3⟩ : own_Go p.tables e below (fun t => ∃ T' L', Stand p l e room_1 (s.setVm s.vm) m #[(.int i1), (.int i2), (.int i3), (.int i4), (.int i5), (.int i6)] below meth c T' L' 0 0 ∧ Fr n0 L' ∧ T'.heap = h0 ∧ t = T'.setTop (mkF m 98 #[.val (.int i1), .val (.int i2), .val (.int i3), .val (.int i4), .val (.int i5), .val (.int i6), .val (.int (own_l i1)), .val (.int (own_lo i1)), .val (.int (own_hi i1)), .val (.int (own_l i2)), .val (.int (own_lo i2)), .val (.int (own_hi i2)), .val (.int (own_lb i1 i3 i5)), .unset, .unset, .unset, .unset, .unset, .unset, .unset, .unset, .unset, .unset, .unset, .unset] [(.int (own_b0 i1 i3 i5))])) (T1.setTop (mkF m 80 #[.val (.int i1), .val (.int i2), .val (.int i3), .val (.int i4), .val (.int i5), .val (.int i6), .val (.int (own_l i1)), .val (.int (own_lo i1)), .val (.int (own_hi i1)), .val (.int (own_l i2)), .val (.int (own_lo i2)), .val (.int (own_hi i2)), .val (.int (own_lb i1 i3 i5)), .unset, .unset, .unset, .unset, .unset, .unset, .unset, .unset, .unset, .unset, .unset, .unset] [])) := by
    refine own_on (fun _ k => XS.iload X1.here hx rfl (hb hby at_80) rfl k) ?_
    show own_Go p.tables e below _ (T1.setTop (mkF m 82 #[.val (.int i1), .val (.int i2), .val (.int i3), .val (.int i4), .val (.int i5), .val (.int i6), .val (.int (own_l i1)), .val (.int (own_lo i1)), .val (.int (own_hi i1)), .val (.int (own_l i2)), .val (.int (own_lo i2)), .val (.int (own_hi i2)), .val (.int (own_lb i1 i3 i5)), .unset, .unset, .unset, .unset, .unset, .unset, .unset, .unset, .unset, .unset, .unset, .unset] [(.int i5)]))
    refine own_on (fun _ k => XT.iconstV X1.here hx rfl (2 : Int32) (hb hby at_82) (by decide) k) ?_
    show own_Go p.tables e below _ (T1.setTop (mkF m 83 #[.val (.int i1), .val (.int i2), .val (.int i3), .val (.int i4), .val (.int i5), .val (.int i6), .val (.int (own_l i1)), .val (.int (own_lo i1)), .val (.int (own_hi i1)), .val (.int (own_l i2)), .val (.int (own_lo i2)), .val (.int (own_hi i2)), .val (.int (own_lb i1 i3 i5)), .unset, .unset, .unset, .unset, .unset, .unset, .unset, .unset, .unset, .unset, .unset, .unset] [(.int (2 : Int32)), (.int i5)]))
    refine own_on (fun _ k => XS.iand X1.here hx rfl (hb hby at_83) rfl k) ?_
    show own_Go p.tables e below _ (T1.setTop (mkF m 84 #[.val (.int i1), .val (.int i2), .val (.int i3), .val (.int i4), .val (.int i5), .val (.int i6), .val (.int (own_l i1)), .val (.int (own_lo i1)), .val (.int (own_hi i1)), .val (.int (own_l i2)), .val (.int (own_lo i2)), .val (.int (own_hi i2)), .val (.int (own_lb i1 i3 i5)), .unset, .unset, .unset, .unset, .unset, .unset, .unset, .unset, .unset, .unset, .unset, .unset] [(.int (i5 &&& (2 : Int32)))]))
    by_cases hc4 : (i5 &&& (2 : Int32)) = (0 : Int32)
    · refine own_on (fun _ k => XS.ifYes X1.here hx rfl (pc0 := 84) (pc' := 92) rfl (hb hby at_84) rfl (XT.i0_eq_t hc4) (by decide) (by decide) k) ?_
      show own_Go p.tables e below _ (T1.setTop (mkF m 92 #[.val (.int i1), .val (.int i2), .val (.int i3), .val (.int i4), .val (.int i5), .val (.int i6), .val (.int (own_l i1)), .val (.int (own_lo i1)), .val (.int (own_hi i1)), .val (.int (own_l i2)), .val (.int (own_lo i2)), .val (.int (own_hi i2)), .val (.int (own_lb i1 i3 i5)), .unset, .unset, .unset, .unset, .unset, .unset, .unset, .unset, .unset, .unset, .unset, .unset] []))
      refine own_on (fun _ k => XS.iloadN X1.here hx rfl (hb hby at_92) rfl k) ?_
      show own_Go p.tables e below _ (T1.setTop (mkF m 93 #[.val (.int i1), .val (.int i2), .val (.int i3), .val (.int i4), .val (.int i5), .val (.int i6), .val (.int (own_l i1)), .val (.int (own_lo i1)), .val (.int (own_hi i1)), .val (.int (own_l i2)), .val (.int (own_lo i2)), .val (.int (own_hi i2)), .val (.int (own_lb i1 i3 i5)), .unset, .unset, .unset, .unset, .unset, .unset, .unset, .unset, .unset, .unset, .unset, .unset] [(.int i3)]))
      refine own_on (fun _ k => XT.sipushV X1.here hx rfl (255 : Int32) (hb hby at_93) (by decide) k) ?_
      show own_Go p.tables e below _ (T1.setTop (mkF m 96 #[.val (.int i1), .val (.int i2), .val (.int i3), .val (.int i4), .val (.int i5), .val (.int i6), .val (.int (own_l i1)), .val (.int (own_lo i1)), .val (.int (own_hi i1)), .val (.int (own_l i2)), .val (.int (own_lo i2)), .val (.int (own_hi i2)), .val (.int (own_lb i1 i3 i5)), .unset, .unset, .unset, .unset, .unset, .unset, .unset, .unset, .unset, .unset, .unset, .unset] [(.int (255 : Int32)), (.int i3)]))
      refine own_on (fun _ k => XS.iand X1.here hx rfl (hb hby at_96) rfl k) ?_
      show own_Go p.tables e below _ (T1.setTop (mkF m 97 #[.val (.int i1), .val (.int i2), .val (.int i3), .val (.int i4), .val (.int i5), .val (.int i6), .val (.int (own_l i1)), .val (.int (own_lo i1)), .val (.int (own_hi i1)), .val (.int (own_l i2)), .val (.int (own_lo i2)), .val (.int (own_hi i2)), .val (.int (own_lb i1 i3 i5)), .unset, .unset, .unset, .unset, .unset, .unset, .unset, .unset, .unset, .unset, .unset, .unset] [(.int (i3 &&& (255 : Int32)))]))
      refine own_on (fun _ k => XT.i2c X1.here hx rfl (hb hby at_97) rfl k) ?_
      show own_Go p.tables e below _ (T1.setTop (mkF m 98 #[.val (.int i1), .val (.int i2), .val (.int i3), .val (.int i4), .val (.int i5), .val (.int i6), .val (.int (own_l i1)), .val (.int (own_lo i1)), .val (.int (own_hi i1)), .val (.int (own_l i2)), .val (.int (own_lo i2)), .val (.int (own_hi i2)), .val (.int (own_lb i1 i3 i5)), .unset, .unset, .unset, .unset, .unset, .unset, .unset, .unset, .unset, .unset, .unset, .unset] [(.int ((i3 &&& (255 : Int32)).toUInt32.toUInt16.toUInt32.toInt32))]))
      exact own_here ⟨T1, _, X1, N1, e1, by rw [show (own_b0 i1 i3 i5) = ((i3 &&& (255 : Int32)).toUInt32.toUInt16.toUInt32.toInt32) from by simp only [own_b0, if_pos hc4] <;> rfl]⟩
    · refine own_on (fun _ k => XS.ifNo X1.here hx rfl (hb hby at_84) rfl (XT.i0_eq_f hc4) k) ?_
      show own_Go p.tables e below _ (T1.setTop (mkF m 87 #[.val (.int i1), .val (.int i2), .val (.int i3), .val (.int i4), .val (.int i5), .val (.int i6), .val (.int (own_l i1)), .val (.int (own_lo i1)), .val (.int (own_hi i1)), .val (.int (own_l i2)), .val (.int (own_lo i2)), .val (.int (own_hi i2)), .val (.int (own_lb i1 i3 i5)), .unset, .unset, .unset, .unset, .unset, .unset, .unset, .unset, .unset, .unset, .unset, .unset] []))
      refine own_on (fun _ k => XS.iload X1.here hx rfl (hb hby at_87) rfl k) ?_
      show own_Go p.tables e below _ (T1.setTop (mkF m 89 #[.val (.int i1), .val (.int i2), .val (.int i3), .val (.int i4), .val (.int i5), .val (.int i6), .val (.int (own_l i1)), .val (.int (own_lo i1)), .val (.int (own_hi i1)), .val (.int (own_l i2)), .val (.int (own_lo i2)), .val (.int (own_hi i2)), .val (.int (own_lb i1 i3 i5)), .unset, .unset, .unset, .unset, .unset, .unset, .unset, .unset, .unset, .unset, .unset, .unset] [(.int (own_lo i1))]))
      refine own_on (fun _ k => XS.goto X1.here hx rfl (pc0 := 89) (pc' := 98) rfl (hb hby at_89) (by decide) (by decide) k) ?_
      show own_Go p.tables e below _ (T1.setTop (mkF m 98 #[.val (.int i1), .val (.int i2), .val (.int i3), .val (.int i4), .val (.int i5), .val (.int i6), .val (.int (own_l i1)), .val (.int (own_lo i1)), .val (.int (own_hi i1)), .val (.int (own_l i2)), .val (.int (own_lo i2)), .val (.int (own_hi i2)), .val (.int (own_lb i1 i3 i5)), .unset, .unset, .unset, .unset, .unset, .unset, .unset, .unset, .unset, .unset, .unset, .unset] [(.int (own_lo i1))]))
      exact own_here ⟨T1, _, X1, N1, e1, by rw [show (own_b0 i1 i3 i5) = (own_lo i1) from by simp only [own_b0, if_neg hc4] <;> rfl]⟩
  refine own_go st3 ?_
  show own_Fin p.tables e below _ (T3.setTop (mkF m 98 #[.val (.int i1), .val (.int i2), .val (.int i3), .val (.int i4), .val (.int i5), .val (.int i6), .val (.int (own_l i1)), .val (.int (own_lo i1)), .val (.int (own_hi i1)), .val (.int (own_l i2)), .val (.int (own_lo i2)), .val (.int (own_hi i2)), .val (.int (own_lb i1 i3 i5)), .unset, .unset, .unset, .unset, .unset, .unset, .unset, .unset, .unset, .unset, .unset, .unset] [(.int (own_b0 i1 i3 i5))]))
  refine own_go (fun _ k => XS.istore X3.here hx rfl (hb hby at_98) rfl (l' := #[.val (.int i1), .val (.int i2), .val (.int i3), .val (.int i4), .val (.int i5), .val (.int i6), .val (.int (own_l i1)), .val (.int (own_lo i1)), .val (.int (own_hi i1)), .val (.int (own_l i2)), .val (.int (own_lo i2)), .val (.int (own_hi i2)), .val (.int (own_lb i1 i3 i5)), .val (.int (own_b0 i1 i3 i5)), .unset, .unset, .unset, .unset, .unset, .unset, .unset, .unset, .unset, .unset, .unset]) rfl k) ?_
  show own_Fin p.tables e below _ (T3.setTop (mkF m 100 #[.val (.int i1), .val (.int i2), .val (.int i3), .val (.int i4), .val (.int i5), .val (.int i6), .val (.int (own_l i1)), .val (.int (own_lo i1)), .val (.int (own_hi i1)), .val (.int (own_l i2)), .val (.int (own_lo i2)), .val (.int (own_hi i2)), .val (.int (own_lb i1 i3 i5)), .val (.int (own_b0 i1 i3 i5)), .unset, .unset, .unset, .unset, .unset, .unset, .unset, .unset, .unset, .unset, .unset] []))
  obtain ⟨_, ⟨T5, L5, X5, N5, e5, rfl⟩, st5⟩ : own_Go p.tables e below (fun t => ∃ T' L', Stand p l e room_1 (s.setVm s.vm) m #[(.int i1), (.int i2), (.int i3), (.int i4), (.int i5), (.int i6)] below meth c T' L' 0 0 ∧ Fr n0 L' ∧ T'.heap = h0 ∧ t = T'.setTop (mkF m 121 #[.val (.int i1), .val (.int i2), .val (.int i3), .val (.int i4), .val (.int i5), .val (.int i6), .val (.int (own_l i1)), .val (.int (own_lo i1)), .val (.int (own_hi i1)), .val (.int (own_l i2)), .val (.int (own_lo i2)), .val (.int (own_hi i2)), .val (.int (own_lb i1 i3 i5)), .val (.int (own_b0 i1 i3 i5)), .unset, .unset, .unset, .unset, .unset, .unset, .unset, .unset, .unset, .unset, .unset] [(.int (own_b1 i1 i3 i5))])) (T3.setTop (mkF m 100 #[.val (.int i1), .val (.int i2), .val (.int i3), .val (.int i4), .val (.int i5), .val (.int i6), .val (.int (own_l i1)), .val (.int (own_lo i1)), .val (.int (own_hi i1)), .val (.int (own_l i2)), .val (.int (own_lo i2)), .val (.int (own_hi i2)), .val (.int (own_lb i1 i3 i5)), .val (.int (own_b0 i1 i3 i5)), .unset, .unset, .unset, .unset, .unset, .unset, .unset, .unset, .unset, .unset, .unset] [])) := by
    refine own_on (fun _ k => XS.iload X3.here hx rfl (hb hby at_100) rfl k) ?_
    show own_Go p.tables e below _ (T3.setTop (mkF m 102 #[.val (.int i1), .val (.int i2), .val (.int i3), .val (.int i4), .val (.int i5), .val (.int i6), .val (.int (own_l i1)), .val (.int (own_lo i1)), .val (.int (own_hi i1)), .val (.int (own_l i2)), .val (.int (own_lo i2)), .val (.int (own_hi i2)), .val (.int (own_lb i1 i3 i5)), .val (.int (own_b0 i1 i3 i5)), .unset, .unset, .unset, .unset, .unset, .unset, .unset, .unset, .unset, .unset, .unset] [(.int i5)]))
    refine own_on (fun _ k => XT.iconstV X3.here hx rfl (4 : Int32) (hb hby at_102) (by decide) k) ?_
    show own_Go p.tables e below _ (T3.setTop (mkF m 103 #[.val (.int i1), .val (.int i2), .val (.int i3), .val (.int i4), .val (.int i5), .val (.int i6), .val (.int (own_l i1)), .val (.int (own_lo i1)), .val (.int (own_hi i1)), .val (.int (own_l i2)), .val (.int (own_lo i2)), .val (.int (own_hi i2)), .val (.int (own_lb i1 i3 i5)), .val (.int (own_b0 i1 i3 i5)), .unset, .unset, .unset, .unset, .unset, .unset, .unset, .unset, .unset, .unset, .unset] [(.int (4 : Int32)), (.int i5)]))
    refine own_on (fun _ k => XS.iand X3.here hx rfl (hb hby at_103) rfl k) ?_
    show own_Go p.tables e below _ (T3.setTop (mkF m 104 #[.val (.int i1), .val (.int i2), .val (.int i3), .val (.int i4), .val (.int i5), .val (.int i6), .val (.int (own_l i1)), .val (.int (own_lo i1)), .val (.int (own_hi i1)), .val (.int (own_l i2)), .val (.int (own_lo i2)), .val (.int (own_hi i2)), .val (.int (own_lb i1 i3 i5)), .val (.int (own_b0 i1 i3 i5)), .unset, .unset, .unset, .unset, .unset, .unset, .unset, .unset, .unset, .unset, .unset] [(.int (i5 &&& (4 : Int32)))]))
    by_cases hc6 : (i5 &&& (4 : Int32)) = (0 : Int32)
    · refine own_on (fun _ k => XS.ifYes X3.here hx rfl (pc0 := 104) (pc' := 112) rfl (hb hby at_104) rfl (XT.i0_eq_t hc6) (by decide) (by decide) k) ?_
      show own_Go p.tables e below _ (T3.setTop (mkF m 112 #[.val (.int i1), .val (.int i2), .val (.int i3), .val (.int i4), .val (.int i5), .val (.int i6), .val (.int (own_l i1)), .val (.int (own_lo i1)), .val (.int (own_hi i1)), .val (.int (own_l i2)), .val (.int (own_lo i2)), .val (.int (own_hi i2)), .val (.int (own_lb i1 i3 i5)), .val (.int (own_b0 i1 i3 i5)), .unset, .unset, .unset, .unset, .unset, .unset, .unset, .unset, .unset, .unset, .unset] []))
      refine own_on (fun _ k => XS.iloadN X3.here hx rfl (hb hby at_112) rfl k) ?_
      show own_Go p.tables e below _ (T3.setTop (mkF m 113 #[.val (.int i1), .val (.int i2), .val (.int i3), .val (.int i4), .val (.int i5), .val (.int i6), .val (.int (own_l i1)), .val (.int (own_lo i1)), .val (.int (own_hi i1)), .val (.int (own_l i2)), .val (.int (own_lo i2)), .val (.int (own_hi i2)), .val (.int (own_lb i1 i3 i5)), .val (.int (own_b0 i1 i3 i5)), .unset, .unset, .unset, .unset, .unset, .unset, .unset, .unset, .unset, .unset, .unset] [(.int i3)]))
      refine own_on (fun _ k => XT.bipushV X3.here hx rfl (8 : Int32) (hb hby at_113) (by decide) k) ?_
      show own_Go p.tables e below _ (T3.setTop (mkF m 115 #[.val (.int i1), .val (.int i2), .val (.int i3), .val (.int i4), .val (.int i5), .val (.int i6), .val (.int (own_l i1)), .val (.int (own_lo i1)), .val (.int (own_hi i1)), .val (.int (own_l i2)), .val (.int (own_lo i2)), .val (.int (own_hi i2)), .val (.int (own_lb i1 i3 i5)), .val (.int (own_b0 i1 i3 i5)), .unset, .unset, .unset, .unset, .unset, .unset, .unset, .unset, .unset, .unset, .unset] [(.int (8 : Int32)), (.int i3)]))
      refine own_on (fun _ k => XT.iushr X3.here hx rfl (hb hby at_115) rfl k) ?_
      show own_Go p.tables e below _ (T3.setTop (mkF m 116 #[.val (.int i1), .val (.int i2), .val (.int i3), .val (.int i4), .val (.int i5), .val (.int i6), .val (.int (own_l i1)), .val (.int (own_lo i1)), .val (.int (own_hi i1)), .val (.int (own_l i2)), .val (.int (own_lo i2)), .val (.int (own_hi i2)), .val (.int (own_lb i1 i3 i5)), .val (.int (own_b0 i1 i3 i5)), .unset, .unset, .unset, .unset, .unset, .unset, .unset, .unset, .unset, .unset, .unset] [(.int (XT.ushr i3 (8 : Int32)))]))
      refine own_on (fun _ k => XT.sipushV X3.here hx rfl (255 : Int32) (hb hby at_116) (by decide) k) ?_
      show own_Go p.tables e below _ (T3.setTop (mkF m 119 #[.val (.int i1), .val (.int i2), .val (.int i3), .val (.int i4), .val (.int i5), .val (.int i6), .val (.int (own_l i1)), .val (.int (own_lo i1)), .val (.int (own_hi i1)), .val (.int (own_l i2)), .val (.int (own_lo i2)), .val (.int (own_hi i2)), .val (.int (own_lb i1 i3 i5)), .val (.int (own_b0 i1 i3 i5)), .unset, .unset, .unset, .unset, .unset, .unset, .unset, .unset, .unset, .unset, .unset] [(.int (255 : Int32)), (.int (XT.ushr i3 (8 : Int32)))]))
      refine own_on (fun _ k => XS.iand X3.here hx rfl (hb hby at_119) rfl k) ?_
      show own_Go p.tables e below _ (T3.setTop (mkF m 120 #[.val (.int i1), .val (.int i2), .val (.int i3), .val (.int i4), .val (.int i5), .val (.int i6), .val (.int (own_l i1)), .val (.int (own_lo i1)), .val (.int (own_hi i1)), .val (.int (own_l i2)), .val (.int (own_lo i2)), .val (.int (own_hi i2)), .val (.int (own_lb i1 i3 i5)), .val (.int (own_b0 i1 i3 i5)), .unset, .unset, .unset, .unset, .unset, .unset, .unset, .unset, .unset, .unset, .unset] [(.int ((XT.ushr i3 (8 : Int32)) &&& (255 : Int32)))]))
      refine own_on (fun _ k => XT.i2c X3.here hx rfl (hb hby at_120) rfl k) ?_
      show own_Go p.tables e below _ (T3.setTop (mkF m 121 #[.val (.int i1), .val (.int i2), .val (.int i3), .val (.int i4), .val (.int i5), .val (.int i6), .val (.int (own_l i1)), .val (.int (own_lo i1)), .val (.int (own_hi i1)), .val (.int (own_l i2)), .val (.int (own_lo i2)), .val (.int (own_hi i2)), .val (.int (own_lb i1 i3 i5)), .val (.int (own_b0 i1 i3 i5)), .unset, .unset, .unset, .unset, .unset, .unset, .unset, .unset, .unset, .unset, .unset] [(.int (((XT.ushr i3 (8 : Int32)) &&& (255 : Int32)).toUInt32.toUInt16.toUInt32.toInt32))]))
      exact own_here ⟨T3, _, X3, N3, e3, by rw [show (own_b1 i1 i3 i5) = (((XT.ushr i3 (8 : Int32)) &&& (255 : Int32)).toUInt32.toUInt16.toUInt32.toInt32) from by simp only [own_b1, if_pos hc6] <;> rfl]⟩
    · refine own_on (fun _ k => XS.ifNo X3.here hx rfl (hb hby at_104) rfl (XT.i0_eq_f hc6) k) ?_
      show own_Go p.tables e below _ (T3.setTop (mkF m 107 #[.val (.int i1), .val (.int i2), .val (.int i3), .val (.int i4), .val (.int i5), .val (.int i6), .val (.int (own_l i1)), .val (.int (own_lo i1)), .val (.int (own_hi i1)), .val (.int (own_l i2)), .val (.int (own_lo i2)), .val (.int (own_hi i2)), .val (.int (own_lb i1 i3 i5)), .val (.int (own_b0 i1 i3 i5)), .unset, .unset, .unset, .unset, .unset, .unset, .unset, .unset, .unset, .unset, .unset] []))
      refine own_on (fun _ k => XS.iload X3.here hx rfl (hb hby at_107) rfl k) ?_
      show own_Go p.tables e below _ (T3.setTop (mkF m 109 #[.val (.int i1), .val (.int i2), .val (.int i3), .val (.int i4), .val (.int i5), .val (.int i6), .val (.int (own_l i1)), .val (.int (own_lo i1)), .val (.int (own_hi i1)), .val (.int (own_l i2)), .val (.int (own_lo i2)), .val (.int (own_hi i2)), .val (.int (own_lb i1 i3 i5)), .val (.int (own_b0 i1 i3 i5)), .unset, .unset, .unset, .unset, .unset, .unset, .unset, .unset, .unset, .unset, .unset] [(.int (own_hi i1))]))
      refine own_on (fun _ k => XS.goto X3.here hx rfl (pc0 := 109) (pc' := 121) rfl (hb hby at_109) (by decide) (by decide) k) ?_
      show own_Go p.tables e below _ (T3.setTop (mkF m 121 #[.val (.int i1), .val (.int i2), .val (.int i3), .val (.int i4), .val (.int i5), .val (.int i6), .val (.int (own_l i1)), .val (.int (own_lo i1)), .val (.int (own_hi i1)), .val (.int (own_l i2)), .val (.int (own_lo i2)), .val (.int (own_hi i2)), .val (.int (own_lb i1 i3 i5)), .val (.int (own_b0 i1 i3 i5)), .unset, .unset, .unset, .unset, .unset, .unset, .unset, .unset, .unset, .unset, .unset] [(.int (own_hi i1))]))
      exact own_here ⟨T3, _, X3, N3, e3, by rw [show (own_b1 i1 i3 i5) = (own_hi i1) from by simp only [own_b1, if_neg hc6] <;> rfl]⟩
  refine own_go st5 ?_
  show own_Fin p.tables e below _ (T5.setTop (mkF m 121 #[.val (.int i1), .val (.int i2), .val (.int i3), .val (.int i4), .val (.int i5), .val (.int i6), .val (.int (own_l i1)), .val (.int (own_lo i1)), .val (.int (own_hi i1)), .val (.int (own_l i2)), .val (.int (own_lo i2)), .val (.int (own_hi i2)), .val (.int (own_lb i1 i3 i5)), .val (.int (own_b0 i1 i3 i5)), .unset, .unset, .unset, .unset, .unset, .unset, .unset, .unset, .unset, .unset, .unset] [(.int (own_b1 i1 i3 i5))]))
  refine own_go (fun _ k => XS.istore X5.here hx rfl (hb hby at_121) rfl (l' := #[.val (.int i1), .val (.int i2), .val (.int i3), .val (.int i4), .val (.int i5), .val (.int i6), .val (.int (own_l i1)), .val (.int (own_lo i1)), .val (.int (own_hi i1)), .val (.int (own_l i2)), .val (.int (own_lo i2)), .val (.int (own_hi i2)), .val (.int (own_lb i1 i3 i5)), .val (.int (own_b0 i1 i3 i5)), .val (.int (own_b1 i1 i3 i5)), .unset, .unset, .unset, .unset, .unset, .unset, .unset, .unset, .unset, .unset]) rfl k) ?_
  show own_Fin p.tables e below _ (T5.setTop (mkF m 123 #[.val (.int i1), .val (.int i2), .val (.int i3), .val (.int i4), .val (.int i5), .val (.int i6), .val (.int (own_l i1)), .val (.int (own_lo i1)), .val (.int (own_hi i1)), .val (.int (own_l i2)), .val (.int (own_lo i2)), .val (.int (own_hi i2)), .val (.int (own_lb i1 i3 i5)), .val (.int (own_b0 i1 i3 i5)), .val (.int (own_b1 i1 i3 i5)), .unset, .unset, .unset, .unset, .unset, .unset, .unset, .unset, .unset, .unset] []))
  obtain ⟨_, ⟨T7, L7, X7, N7, e7, rfl⟩, st7⟩ : own_Go p.tables e below (fun t => ∃ T' L', Stand p l e room_1 (s.setVm s.vm) m #[(.int i1), (.int i2), (.int i3), (.int i4), (.int i5), (.int i6)] below meth c T' L' 0 0 ∧ Fr n0 L' ∧ T'.heap = h0 ∧ t = T'.setTop (mkF m 144 #[.val (.int i1), .val (.int i2), .val (.int i3), .val (.int i4), .val (.int i5), .val (.int i6), .val (.int (own_l i1)), .val (.int (own_lo i1)), .val (.int (own_hi i1)), .val (.int (own_l i2)), .val (.int (own_lo i2)), .val (.int (own_hi i2)), .val (.int (own_lb i1 i3 i5)), .val (.int (own_b0 i1 i3 i5)), .val (.int (own_b1 i1 i3 i5)), .unset, .unset, .unset, .unset, .unset, .unset, .unset, .unset, .unset, .unset] [(.int (own_kb i2 i4 i5))])) (T5.setTop (mkF m 123 #[.val (.int i1), .val (.int i2), .val (.int i3), .val (.int i4), .val (.int i5), .val (.int i6), .val (.int (own_l i1)), .val (.int (own_lo i1)), .val (.int (own_hi i1)), .val (.int (own_l i2)), .val (.int (own_lo i2)), .val (.int (own_hi i2)), .val (.int (own_lb i1 i3 i5)), .val (.int (own_b0 i1 i3 i5)), .val (.int (own_b1 i1 i3 i5)), .unset, .unset, .unset, .unset, .unset, .unset, .unset, .unset, .unset, .unset] [])) := by
    refine own_on (fun _ k => XS.iload X5.here hx rfl (hb hby at_123) rfl k) ?_
    show own_Go p.tables e below _ (T5.setTop (mkF m 125 #[.val (.int i1), .val (.int i2), .val (.int i3), .val (.int i4), .val (.int i5), .val (.int i6), .val (.int (own_l i1)), .val (.int (own_lo i1)), .val (.int (own_hi i1)), .val (.int (own_l i2)), .val (.int (own_lo i2)), .val (.int (own_hi i2)), .val (.int (own_lb i1 i3 i5)), .val (.int (own_b0 i1 i3 i5)), .val (.int (own_b1 i1 i3 i5)), .unset, .unset, .unset, .unset, .unset, .unset, .unset, .unset, .unset, .unset] [(.int i5)]))
    refine own_on (fun _ k => XT.bipushV X5.here hx rfl (8 : Int32) (hb hby at_125) (by decide) k) ?_
    show own_Go p.tables e below _ (T5.setTop (mkF m 127 #[.val (.int i1), .val (.int i2), .val (.int i3), .val (.int i4), .val (.int i5), .val (.int i6), .val (.int (own_l i1)), .val (.int (own_lo i1)), .val (.int (own_hi i1)), .val (.int (own_l i2)), .val (.int (own_lo i2)), .val (.int (own_hi i2)), .val (.int (own_lb i1 i3 i5)), .val (.int (own_b0 i1 i3 i5)), .val (.int (own_b1 i1 i3 i5)), .unset, .unset, .unset, .unset, .unset, .unset, .unset, .unset, .unset, .unset] [(.int (8 : Int32)), (.int i5)]))
    refine own_on (fun _ k => XS.iand X5.here hx rfl (hb hby at_127) rfl k) ?_
    show own_Go p.tables e below _ (T5.setTop (mkF m 128 #[.val (.int i1), .val (.int i2), .val (.int i3), .val (.int i4), .val (.int i5), .val (.int i6), .val (.int (own_l i1)), .val (.int (own_lo i1)), .val (.int (own_hi i1)), .val (.int (own_l i2)), .val (.int (own_lo i2)), .val (.int (own_hi i2)), .val (.int (own_lb i1 i3 i5)), .val (.int (own_b0 i1 i3 i5)), .val (.int (own_b1 i1 i3 i5)), .unset, .unset, .unset, .unset, .unset, .unset, .unset, .unset, .unset, .unset] [(.int (i5 &&& (8 : Int32)))]))
    by_cases hc8 : (i5 &&& (8 : Int32)) = (0 : Int32)
    · refine own_on (fun _ k => XS.ifYes X5.here hx rfl (pc0 := 128) (pc' := 136) rfl (hb hby at_128) rfl (XT.i0_eq_t hc8) (by decide) (by decide) k) ?_
      show own_Go p.tables e below _ (T5.setTop (mkF m 136 #[.val (.int i1), .val (.int i2), .val (.int i3), .val (.int i4), .val (.int i5), .val (.int i6), .val (.int (own_l i1)), .val (.int (own_lo i1)), .val (.int (own_hi i1)), .val (.int (own_l i2)), .val (.int (own_lo i2)), .val (.int (own_hi i2)), .val (.int (own_lb i1 i3 i5)), .val (.int (own_b0 i1 i3 i5)), .val (.int (own_b1 i1 i3 i5)), .unset, .unset, .unset, .unset, .unset, .unset, .unset, .unset, .unset, .unset] []))
      refine own_on (fun _ k => XS.iloadN X5.here hx rfl (hb hby at_136) rfl k) ?_
      show own_Go p.tables e below _ (T5.setTop (mkF m 137 #[.val (.int i1), .val (.int i2), .val (.int i3), .val (.int i4), .val (.int i5), .val (.int i6), .val (.int (own_l i1)), .val (.int (own_lo i1)), .val (.int (own_hi i1)), .val (.int (own_l i2)), .val (.int (own_lo i2)), .val (.int (own_hi i2)), .val (.int (own_lb i1 i3 i5)), .val (.int (own_b0 i1 i3 i5)), .val (.int (own_b1 i1 i3 i5)), .unset, .unset, .unset, .unset, .unset, .unset, .unset, .unset, .unset, .unset] [(.int i4)]))
      refine own_on (fun _ k => XT.bipushV X5.here hx rfl (16 : Int32) (hb hby at_137) (by decide) k) ?_
      show own_Go p.tables e below _ (T5.setTop (mkF m 139 #[.val (.int i1), .val (.int i2), .val (.int i3), .val (.int i4), .val (.int i5), .val (.int i6), .val (.int (own_l i1)), .val (.int (own_lo i1)), .val (.int (own_hi i1)), .val (.int (own_l i2)), .val (.int (own_lo i2)), .val (.int (own_hi i2)), .val (.int (own_lb i1 i3 i5)), .val (.int (own_b0 i1 i3 i5)), .val (.int (own_b1 i1 i3 i5)), .unset, .unset, .unset, .unset, .unset, .unset, .unset, .unset, .unset, .unset] [(.int (16 : Int32)), (.int i4)]))
      refine own_on (fun _ k => XT.iushr X5.here hx rfl (hb hby at_139) rfl k) ?_
      show own_Go p.tables e below _ (T5.setTop (mkF m 140 #[.val (.int i1), .val (.int i2), .val (.int i3), .val (.int i4), .val (.int i5), .val (.int i6), .val (.int (own_l i1)), .val (.int (own_lo i1)), .val (.int (own_hi i1)), .val (.int (own_l i2)), .val (.int (own_lo i2)), .val (.int (own_hi i2)), .val (.int (own_lb i1 i3 i5)), .val (.int (own_b0 i1 i3 i5)), .val (.int (own_b1 i1 i3 i5)), .unset, .unset, .unset, .unset, .unset, .unset, .unset, .unset, .unset, .unset] [(.int (XT.ushr i4 (16 : Int32)))]))
      refine own_on (fun _ k => XT.iconstV X5.here hx rfl (3 : Int32) (hb hby at_140) (by decide) k) ?_
      show own_Go p.tables e below _ (T5.setTop (mkF m 141 #[.val (.int i1), .val (.int i2), .val (.int i3), .val (.int i4), .val (.int i5), .val (.int i6), .val (.int (own_l i1)), .val (.int (own_lo i1)), .val (.int (own_hi i1)), .val (.int (own_l i2)), .val (.int (own_lo i2)), .val (.int (own_hi i2)), .val (.int (own_lb i1 i3 i5)), .val (.int (own_b0 i1 i3 i5)), .val (.int (own_b1 i1 i3 i5)), .unset, .unset, .unset, .unset, .unset, .unset, .unset, .unset, .unset, .unset] [(.int (3 : Int32)), (.int (XT.ushr i4 (16 : Int32)))]))
      refine own_on (fun _ k => XS.iand X5.here hx rfl (hb hby at_141) rfl k) ?_
      show own_Go p.tables e below _ (T5.setTop (mkF m 142 #[.val (.int i1), .val (.int i2), .val (.int i3), .val (.int i4), .val (.int i5), .val (.int i6), .val (.int (own_l i1)), .val (.int (own_lo i1)), .val (.int (own_hi i1)), .val (.int (own_l i2)), .val (.int (own_lo i2)), .val (.int (own_hi i2)), .val (.int (own_lb i1 i3 i5)), .val (.int (own_b0 i1 i3 i5)), .val (.int (own_b1 i1 i3 i5)), .unset, .unset, .unset, .unset, .unset, .unset, .unset, .unset, .unset, .unset] [(.int ((XT.ushr i4 (16 : Int32)) &&& (3 : Int32)))]))
      refine own_on (fun _ k => XT.iconstV X5.here hx rfl (3 : Int32) (hb hby at_142) (by decide) k) ?_
      show own_Go p.tables e below _ (T5.setTop (mkF m 143 #[.val (.int i1), .val (.int i2), .val (.int i3), .val (.int i4), .val (.int i5), .val (.int i6), .val (.int (own_l i1)), .val (.int (own_lo i1)), .val (.int (own_hi i1)), .val (.int (own_l i2)), .val (.int (own_lo i2)), .val (.int (own_hi i2)), .val (.int (own_lb i1 i3 i5)), .val (.int (own_b0 i1 i3 i5)), .val (.int (own_b1 i1 i3 i5)), .unset, .unset, .unset, .unset, .unset, .unset, .unset, .unset, .unset, .unset] [(.int (3 : Int32)), (.int ((XT.ushr i4 (16 : Int32)) &&& (3 : Int32)))]))
      refine own_on (fun _ k => iremM X5 hx rfl (hb hby at_143) rfl (by decide) k) ?_
      show own_Go p.tables e below _ (T5.setTop (mkF m 144 #[.val (.int i1), .val (.int i2), .val (.int i3), .val (.int i4), .val (.int i5), .val (.int i6), .val (.int (own_l i1)), .val (.int (own_lo i1)), .val (.int (own_hi i1)), .val (.int (own_l i2)), .val (.int (own_lo i2)), .val (.int (own_hi i2)), .val (.int (own_lb i1 i3 i5)), .val (.int (own_b0 i1 i3 i5)), .val (.int (own_b1 i1 i3 i5)), .unset, .unset, .unset, .unset, .unset, .unset, .unset, .unset, .unset, .unset] [(.int (((XT.ushr i4 (16 : Int32)) &&& (3 : Int32)) % (3 : Int32)))]))
      exact own_here ⟨T5, _, X5, N5, e5, by rw [show (own_kb i2 i4 i5) = (((XT.ushr i4 (16 : Int32)) &&& (3 : Int32)) % (3 : Int32)) from by simp only [own_kb, if_pos hc8] <;> rfl]⟩
    · refine own_on (fun _ k => XS.ifNo X5.here hx rfl (hb hby at_128) rfl (XT.i0_eq_f hc8) k) ?_
      show own_Go p.tables e below _ (T5.setTop (mkF m 131 #[.val (.int i1), .val (.int i2), .val (.int i3), .val (.int i4), .val (.int i5), .val (.int i6), .val (.int (own_l i1)), .val (.int (own_lo i1)), .val (.int (own_hi i1)), .val (.int (own_l i2)), .val (.int (own_lo i2)), .val (.int (own_hi i2)), .val (.int (own_lb i1 i3 i5)), .val (.int (own_b0 i1 i3 i5)), .val (.int (own_b1 i1 i3 i5)), .unset, .unset, .unset, .unset, .unset, .unset, .unset, .unset, .unset, .unset] []))
      refine own_on (fun _ k => XS.iload X5.here hx rfl (hb hby at_131) rfl k) ?_
      show own_Go p.tables e below _ (T5.setTop (mkF m 133 #[.val (.int i1), .val (.int i2), .val (.int i3), .val (.int i4), .val (.int i5), .val (.int i6), .val (.int (own_l i1)), .val (.int (own_lo i1)), .val (.int (own_hi i1)), .val (.int (own_l i2)), .val (.int (own_lo i2)), .val (.int (own_hi i2)), .val (.int (own_lb i1 i3 i5)), .val (.int (own_b0 i1 i3 i5)), .val (.int (own_b1 i1 i3 i5)), .unset, .unset, .unset, .unset, .unset, .unset, .unset, .unset, .unset, .unset] [(.int (own_l i2))]))
      refine own_on (fun _ k => XS.goto X5.here hx rfl (pc0 := 133) (pc' := 144) rfl (hb hby at_133) (by decide) (by decide) k) ?_
      show own_Go p.tables e below _ (T5.setTop (mkF m 144 #[.val (.int i1), .val (.int i2), .val (.int i3), .val (.int i4), .val (.int i5), .val (.int i6), .val (.int (own_l i1)), .val (.int (own_lo i1)), .val (.int (own_hi i1)), .val (.int (own_l i2)), .val (.int (own_lo i2)), .val (.int (own_hi i2)), .val (.int (own_lb i1 i3 i5)), .val (.int (own_b0 i1 i3 i5)), .val (.int (own_b1 i1 i3 i5)), .unset, .unset, .unset, .unset, .unset, .unset, .unset, .unset, .unset, .unset] [(.int (own_l i2))]))
      exact own_here ⟨T5, _, X5, N5, e5, by rw [show (own_kb i2 i4 i5) = (own_l i2) from by simp only [own_kb, if_neg hc8] <;> rfl]⟩
  refine own_go st7 ?_
  show own_Fin p.tables e below _ (T7.setTop (mkF m 144 #[.val (.int i1), .val (.int i2), .val (.int i3), .val (.int i4), .val (.int i5), .val (.int i6), .val (.int (own_l i1)), .val (.int (own_lo i1)), .val (.int (own_hi i1)), .val (.int (own_l i2)), .val (.int (own_lo i2)), .val (.int (own_hi i2)), .val (.int (own_lb i1 i3 i5)), .val (.int (own_b0 i1 i3 i5)), .val (.int (own_b1 i1 i3 i5)), .unset, .unset, .unset, .unset, .unset, .unset, .unset, .unset, .unset, .unset] [(.int (own_kb i2 i4 i5))]))
  refine own_go (fun _ k => XS.istore X7.here hx rfl (hb hby at_144) rfl (l' := #[.val (.int i1), .val (.int i2), .val (.int i3), .val (.int i4), .val (.int i5), .val (.int i6), .val (.int (own_l i1)), .val (.int (own_lo i1)), .val (.int (own_hi i1)), .val (.int (own_l i2)), .val (.int (own_lo i2)), .val (.int (own_hi i2)), .val (.int (own_lb i1 i3 i5)), .val (.int (own_b0 i1 i3 i5)), .val (.int (own_b1 i1 i3 i5)), .val (.int (own_kb i2 i4 i5)), .unset, .unset, .unset, .unset, .unset, .unset, .unset, .unset, .unset]) rfl k) ?_
  show own_Fin p.tables e below _ (T7.setTop (mkF m 146 #[.val (.int i1), .val (.int i2), .val (.int i3), .val (.int i4), .val (.int i5), .val (.int i6), .val (.int (own_l i1)), .val (.int (own_lo i1)), .val (.int (own_hi i1)), .val (.int (own_l i2)), .val (.int (own_lo i2)), .val (.int (own_hi i2)), .val (.int (own_lb i1 i3 i5)), .val (.int (own_b0 i1 i3 i5)), .val (.int (own_b1 i1 i3 i5)), .val (.int (own_kb i2 i4 i5)), .unset, .unset, .unset, .unset, .unset, .unset, .unset, .unset, .unset] []))
  obtain ⟨_, ⟨T9, L9, X9, N9, e9, rfl⟩, st9⟩ : own_Go p.tables e below (fun t => ∃ T' L', Stand p l e room_1 (s.setVm s.vm) m #[(.int i1), (.int i2), (.int i3), (.int i4), (.int i5), (.int i6)] below meth c T' L' 0 0 ∧ Fr n0 L' ∧ T'.heap = h0 ∧ t = T'.setTop (mkF m 165 #[.val (.int i1), .val (.int i2), .val (.int i3), .val (.int i4), .val (.int i5), .val (.int i6), .val (.int (own_l i1)), .val (.int (own_lo i1)), .val (.int (own_hi i1)), .val (.int (own_l i2)), .val (.int (own_lo i2)), .val (.int (own_hi i2)), .val (.int (own_lb i1 i3 i5)), .val (.int (own_b0 i1 i3 i5)), .val (.int (own_b1 i1 i3 i5)), .val (.int (own_kb i2 i4 i5)), .unset, .unset, .unset, .unset, .unset, .unset, .unset, .unset, .unset] [(.int (own_m0 i2 i4 i5))])) (T7.setTop (mkF m 146 #[.val (.int i1), .val (.int i2), .val (.int i3), .val (.int i4), .val (.int i5), .val (.int i6), .val (.int (own_l i1)), .val (.int (own_lo i1)), .val (.int (own_hi i1)), .val (.int (own_l i2)), .val (.int (own_lo i2)), .val (.int (own_hi i2)), .val (.int (own_lb i1 i3 i5)), .val (.int (own_b0 i1 i3 i5)), .val (.int (own_b1 i1 i3 i5)), .val (.int (own_kb i2 i4 i5)), .unset, .unset, .unset, .unset, .unset, .unset, .unset, .unset, .unset] [])) := by
    refine own_on (fun _ k => XS.iload X7.here hx rfl (hb hby at_146) rfl k) ?_
    show own_Go p.tables e below _ (T7.setTop (mkF m 148 #[.val (.int i1), .val (.int i2), .val (.int i3), .val (.int i4), .val (.int i5), .val (.int i6), .val (.int (own_l i1)), .val (.int (own_lo i1)), .val (.int (own_hi i1)), .val (.int (own_l i2)), .val (.int (own_lo i2)), .val (.int (own_hi i2)), .val (.int (own_lb i1 i3 i5)), .val (.int (own_b0 i1 i3 i5)), .val (.int (own_b1 i1 i3 i5)), .val (.int (own_kb i2 i4 i5)), .unset, .unset, .unset, .unset, .unset, .unset, .unset, .unset, .unset] [(.int i5)]))
    refine own_on (fun _ k => XT.bipushV X7.here hx rfl (16 : Int32) (hb hby at_148) (by decide) k) ?_
    show own_Go p.tables e below _ (T7.setTop (mkF m 150 #[.val (.int i1), .val (.int i2), .val (.int i3), .val (.int i4), .val (.int i5), .val (.int i6), .val (.int (own_l i1)), .val (.int (own_lo i1)), .val (.int (own_hi i1)), .val (.int (own_l i2)), .val (.int (own_lo i2)), .val (.int (own_hi i2)), .val (.int (own_lb i1 i3 i5)), .val (.int (own_b0 i1 i3 i5)), .val (.int (own_b1 i1 i3 i5)), .val (.int (own_kb i2 i4 i5)), .unset, .unset, .unset, .unset, .unset, .unset, .unset, .unset, .unset] [(.int (16 : Int32)), (.int i5)]))
    refine own_on (fun _ k => XS.iand X7.here hx rfl (hb hby at_150) rfl k) ?_
    show own_Go p.tables e below _ (T7.setTop (mkF m 151 #[.val (.int i1), .val (.int i2), .val (.int i3), .val (.int i4), .val (.int i5), .val (.int i6), .val (.int (own_l i1)), .val (.int (own_lo i1)), .val (.int (own_hi i1)), .val (.int (own_l i2)), .val (.int (own_lo i2)), .val (.int (own_hi i2)), .val (.int (own_lb i1 i3 i5)), .val (.int (own_b0 i1 i3 i5)), .val (.int (own_b1 i1 i3 i5)), .val (.int (own_kb i2 i4 i5)), .unset, .unset, .unset, .unset, .unset, .unset, .unset, .unset, .unset] [(.int (i5 &&& (16 : Int32)))]))
    by_cases hc10 : (i5 &&& (16 : Int32)) = (0 : Int32)
    · refine own_on (fun _ k => XS.ifYes X7.here hx rfl (pc0 := 151) (pc' := 159) rfl (hb hby at_151) rfl (XT.i0_eq_t hc10) (by decide) (by decide) k) ?_
      show own_Go p.tables e below _ (T7.setTop (mkF m 159 #[.val (.int i1), .val (.int i2), .val (.int i3), .val (.int i4), .val (.int i5), .val (.int i6), .val (.int (own_l i1)), .val (.int (own_lo i1)), .val (.int (own_hi i1)), .val (.int (own_l i2)), .val (.int (own_lo i2)), .val (.int (own_hi i2)), .val (.int (own_lb i1 i3 i5)), .val (.int (own_b0 i1 i3 i5)), .val (.int (own_b1 i1 i3 i5)), .val (.int (own_kb i2 i4 i5)), .unset, .unset, .unset, .unset, .unset, .unset, .unset, .unset, .unset] []))
      refine own_on (fun _ k => XS.iloadN X7.here hx rfl (hb hby at_159) rfl k) ?_
      show own_Go p.tables e below _ (T7.setTop (mkF m 160 #[.val (.int i1), .val (.int i2), .val (.int i3), .val (.int i4), .val (.int i5), .val (.int i6), .val (.int (own_l i1)), .val (.int (own_lo i1)), .val (.int (own_hi i1)), .val (.int (own_l i2)), .val (.int (own_lo i2)), .val (.int (own_hi i2)), .val (.int (own_lb i1 i3 i5)), .val (.int (own_b0 i1 i3 i5)), .val (.int (own_b1 i1 i3 i5)), .val (.int (own_kb i2 i4 i5)), .unset, .unset, .unset, .unset, .unset, .unset, .unset, .unset, .unset] [(.int i4)]))
      refine own_on (fun _ k => XT.sipushV X7.here hx rfl (255 : Int32) (hb hby at_160) (by decide) k) ?_
      show own_Go p.tables e below _ (T7.setTop (mkF m 163 #[.val (.int i1), .val (.int i2), .val (.int i3), .val (.int i4), .val (.int i5), .val (.int i6), .val (.int (own_l i1)), .val (.int (own_lo i1)), .val (.int (own_hi i1)), .val (.int (own_l i2)), .val (.int (own_lo i2)), .val (.int (own_hi i2)), .val (.int (own_lb i1 i3 i5)), .val (.int (own_b0 i1 i3 i5)), .val (.int (own_b1 i1 i3 i5)), .val (.int (own_kb i2 i4 i5)), .unset, .unset, .unset, .unset, .unset, .unset, .unset, .unset, .unset] [(.int (255 : Int32)), (.int i4)]))
      refine own_on (fun _ k => XS.iand X7.here hx rfl (hb hby at_163) rfl k) ?_
      show own_Go p.tables e below _ (T7.setTop (mkF m 164 #[.val (.int i1), .val (.int i2), .val (.int i3), .val (.int i4), .val (.int i5), .val (.int i6), .val (.int (own_l i1)), .val (.int (own_lo i1)), .val (.int (own_hi i1)), .val (.int (own_l i2)), .val (.int (own_lo i2)), .val (.int (own_hi i2)), .val (.int (own_lb i1 i3 i5)), .val (.int (own_b0 i1 i3 i5)), .val (.int (own_b1 i1 i3 i5)), .val (.int (own_kb i2 i4 i5)), .unset, .unset, .unset, .unset, .unset, .unset, .unset, .unset, .unset] [(.int (i4 &&& (255 : Int32)))]))
      refine own_on (fun _ k => XT.i2c X7.here hx rfl (hb hby at_164) rfl k) ?_
      show own_Go p.tables e below _ (T7.setTop (mkF m 165 #[.val (.int i1), .val (.int i2), .val (.int i3), .val (.int i4), .val (.int i5), .val (.int i6), .val (.int (own_l i1)), .val (.int (own_lo i1)), .val (.int (own_hi i1)), .val (.int (own_l i2)), .val (.int (own_lo i2)), .val (.int (own_hi i2)), .val (.int (own_lb i1 i3 i5)), .val (.int (own_b0 i1 i3 i5)), .val (.int (own_b1 i1 i3 i5)), .val (.int (own_kb i2 i4 i5)), .unset, .unset, .unset, .unset, .unset, .unset, .unset, .unset, .unset] [(.int ((i4 &&& (255 : Int32)).toUInt32.toUInt16.toUInt32.toInt32))]))
      exact own_here ⟨T7, _, X7, N7, e7, by rw [show (own_m0 i2 i4 i5) = ((i4 &&& (255 : Int32)).toUInt32.toUInt16.toUInt32.toInt32) from by simp only [own_m0, if_pos hc10] <;> rfl]⟩
    · refine own_on (fun _ k => XS.ifNo X7.here hx rfl (hb hby at_151) rfl (XT.i0_eq_f hc10) k) ?_
      show own_Go p.tables e below _ (T7.setTop (mkF m 154 #[.val (.int i1), .val (.int i2), .val (.int i3), .val (.int i4), .val (.int i5), .val (.int i6), .val (.int (own_l i1)), .val (.int (own_lo i1)), .val (.int (own_hi i1)), .val (.int (own_l i2)), .val (.int (own_lo i2)), .val (.int (own_hi i2)), .val (.int (own_lb i1 i3 i5)), .val (.int (own_b0 i1 i3 i5)), .val (.int (own_b1 i1 i3 i5)), .val (.int (own_kb i2 i4 i5)), .unset, .unset, .unset, .unset, .unset, .unset, .unset, .unset, .unset] []))
      refine own_on (fun _ k => XS.iload X7.here hx rfl (hb hby at_154) rfl k) ?_
      show own_Go p.tables e below _ (T7.setTop (mkF m 156 #[.val (.int i1), .val (.int i2), .val (.int i3), .val (.int i4), .val (.int i5), .val (.int i6), .val (.int (own_l i1)), .val (.int (own_lo i1)), .val (.int (own_hi i1)), .val (.int (own_l i2)), .val (.int (own_lo i2)), .val (.int (own_hi i2)), .val (.int (own_lb i1 i3 i5)), .val (.int (own_b0 i1 i3 i5)), .val (.int (own_b1 i1 i3 i5)), .val (.int (own_kb i2 i4 i5)), .unset, .unset, .unset, .unset, .unset, .unset, .unset, .unset, .unset] [(.int (own_lo i2))]))
      refine own_on (fun _ k => XS.goto X7.here hx rfl (pc0 := 156) (pc' := 165) rfl (hb hby at_156) (by decide) (by decide) k) ?_
      show own_Go p.tables e below _ (T7.setTop (mkF m 165 #[.val (.int i1), .val (.int i2), .val (.int i3), .val (.int i4), .val (.int i5), .val (.int i6), .val (.int (own_l i1)), .val (.int (own_lo i1)), .val (.int (own_hi i1)), .val (.int (own_l i2)), .val (.int (own_lo i2)), .val (.int (own_hi i2)), .val (.int (own_lb i1 i3 i5)), .val (.int (own_b0 i1 i3 i5)), .val (.int (own_b1 i1 i3 i5)), .val (.int (own_kb i2 i4 i5)), .unset, .unset, .unset, .unset, .unset, .unset, .unset, .unset, .unset] [(.int (own_lo i2))]))
      exact own_here ⟨T7, _, X7, N7, e7, by rw [show (own_m0 i2 i4 i5) = (own_lo i2) from by simp only [own_m0, if_neg hc10] <;> rfl]⟩
  refine own_go st9 ?_
  show own_Fin p.tables e below _ (T9.setTop (mkF m 165 #[.val (.int i1), .val (.int i2), .val (.int i3), .val (.int i4), .val (.int i5), .val (.int i6), .val (.int (own_l i1)), .val (.int (own_lo i1)), .val (.int (own_hi i1)), .val (.int (own_l i2)), .val (.int (own_lo i2)), .val (.int (own_hi i2)), .val (.int (own_lb i1 i3 i5)), .val (.int (own_b0 i1 i3 i5)), .val (.int (own_b1 i1 i3 i5)), .val (.int (own_kb i2 i4 i5)), .unset, .unset, .unset, .unset, .unset, .unset, .unset, .unset, .unset] [(.int (own_m0 i2 i4 i5))]))
  refine own_go (fun _ k => XS.istore X9.here hx rfl (hb hby at_165) rfl (l' := #[.val (.int i1), .val (.int i2), .val (.int i3), .val (.int i4), .val (.int i5), .val (.int i6), .val (.int (own_l i1)), .val (.int (own_lo i1)), .val (.int (own_hi i1)), .val (.int (own_l i2)), .val (.int (own_lo i2)), .val (.int (own_hi i2)), .val (.int (own_lb i1 i3 i5)), .val (.int (own_b0 i1 i3 i5)), .val (.int (own_b1 i1 i3 i5)), .val (.int (own_kb i2 i4 i5)), .val (.int (own_m0 i2 i4 i5)), .unset, .unset, .unset, .unset, .unset, .unset, .unset, .unset]) rfl k) ?_
  show own_Fin p.tables e below _ (T9.setTop (mkF m 167 #[.val (.int i1), .val (.int i2), .val (.int i3), .val (.int i4), .val (.int i5), .val (.int i6), .val (.int (own_l i1)), .val (.int (own_lo i1)), .val (.int (own_hi i1)), .val (.int (own_l i2)), .val (.int (own_lo i2)), .val (.int (own_hi i2)), .val (.int (own_lb i1 i3 i5)), .val (.int (own_b0 i1 i3 i5)), .val (.int (own_b1 i1 i3 i5)), .val (.int (own_kb i2 i4 i5)), .val (.int (own_m0 i2 i4 i5)), .unset, .unset, .unset, .unset, .unset, .unset, .unset, .unset] []))
  obtain ⟨_, ⟨T11, L11, X11, N11, e11, rfl⟩, st11⟩ : own_Go p.tables e below (fun t => ∃ T' L', Stand p l e room_1 (s.setVm s.vm) m #[(.int i1), (.int i2), (.int i3), (.int i4), (.int i5), (.int i6)] below meth c T' L' 0 0 ∧ Fr n0 L' ∧ T'.heap = h0 ∧ t = T'.setTop (mkF m 189 #[.val (.int i1), .val (.int i2), .val (.int i3), .val (.int i4), .val (.int i5), .val (.int i6), .val (.int (own_l i1)), .val (.int (own_lo i1)), .val (.int (own_hi i1)), .val (.int (own_l i2)), .val (.int (own_lo i2)), .val (.int (own_hi i2)), .val (.int (own_lb i1 i3 i5)), .val (.int (own_b0 i1 i3 i5)), .val (.int (own_b1 i1 i3 i5)), .val (.int (own_kb i2 i4 i5)), .val (.int (own_m0 i2 i4 i5)), .unset, .unset, .unset, .unset, .unset, .unset, .unset, .unset] [(.int (own_m1 i2 i4 i5))])) (T9.setTop (mkF m 167 #[.val (.int i1), .val (.int i2), .val (.int i3), .val (.int i4), .val (.int i5), .val (.int i6), .val (.int (own_l i1)), .val (.int (own_lo i1)), .val (.int (own_hi i1)), .val (.int (own_l i2)), .val (.int (own_lo i2)), .val (.int (own_hi i2)), .val (.int (own_lb i1 i3 i5)), .val (.int (own_b0 i1 i3 i5)), .val (.int (own_b1 i1 i3 i5)), .val (.int (own_kb i2 i4 i5)), .val (.int (own_m0 i2 i4 i5)), .unset, .unset, .unset, .unset, .unset, .unset, .unset, .unset] [])) := by
    refine own_on (fun _ k => XS.iload X9.here hx rfl (hb hby at_167) rfl k) ?_
    show own_Go p.tables e below _ (T9.setTop (mkF m 169 #[.val (.int i1), .val (.int i2), .val (.int i3), .val (.int i4), .val (.int i5), .val (.int i6), .val (.int (own_l i1)), .val (.int (own_lo i1)), .val (.int (own_hi i1)), .val (.int (own_l i2)), .val (.int (own_lo i2)), .val (.int (own_hi i2)), .val (.int (own_lb i1 i3 i5)), .val (.int (own_b0 i1 i3 i5)), .val (.int (own_b1 i1 i3 i5)), .val (.int (own_kb i2 i4 i5)), .val (.int (own_m0 i2 i4 i5)), .unset, .unset, .unset, .unset, .unset, .unset, .unset, .unset] [(.int i5)]))
    refine own_on (fun _ k => XT.bipushV X9.here hx rfl (32 : Int32) (hb hby at_169) (by decide) k) ?_
    show own_Go p.tables e below _ (T9.setTop (mkF m 171 #[.val (.int i1), .val (.int i2), .val (.int i3), .val (.int i4), .val (.int i5), .val (.int i6), .val (.int (own_l i1)), .val (.int (own_lo i1)), .val (.int (own_hi i1)), .val (.int (own_l i2)), .val (.int (own_lo i2)), .val (.int (own_hi i2)), .val (.int (own_lb i1 i3 i5)), .val (.int (own_b0 i1 i3 i5)), .val (.int (own_b1 i1 i3 i5)), .val (.int (own_kb i2 i4 i5)), .val (.int (own_m0 i2 i4 i5)), .unset, .unset, .unset, .unset, .unset, .unset, .unset, .unset] [(.int (32 : Int32)), (.int i5)]))
    refine own_on (fun _ k => XS.iand X9.here hx rfl (hb hby at_171) rfl k) ?_
    show own_Go p.tables e below _ (T9.setTop (mkF m 172 #[.val (.int i1), .val (.int i2), .val (.int i3), .val (.int i4), .val (.int i5), .val (.int i6), .val (.int (own_l i1)), .val (.int (own_lo i1)), .val (.int (own_hi i1)), .val (.int (own_l i2)), .val (.int (own_lo i2)), .val (.int (own_hi i2)), .val (.int (own_lb i1 i3 i5)), .val (.int (own_b0 i1 i3 i5)), .val (.int (own_b1 i1 i3 i5)), .val (.int (own_kb i2 i4 i5)), .val (.int (own_m0 i2 i4 i5)), .unset, .unset, .unset, .unset, .unset, .unset, .unset, .unset] [(.int (i5 &&& (32 : Int32)))]))
    by_cases hc12 : (i5 &&& (32 : Int32)) = (0 : Int32)
    · refine own_on (fun _ k => XS.ifYes X9.here hx rfl (pc0 := 172) (pc' := 180) rfl (hb hby at_172) rfl (XT.i0_eq_t hc12) (by decide) (by decide) k) ?_
      show own_Go p.tables e below _ (T9.setTop (mkF m 180 #[.val (.int i1), .val (.int i2), .val (.int i3), .val (.int i4), .val (.int i5), .val (.int i6), .val (.int (own_l i1)), .val (.int (own_lo i1)), .val (.int (own_hi i1)), .val (.int (own_l i2)), .val (.int (own_lo i2)), .val (.int (own_hi i2)), .val (.int (own_lb i1 i3 i5)), .val (.int (own_b0 i1 i3 i5)), .val (.int (own_b1 i1 i3 i5)), .val (.int (own_kb i2 i4 i5)), .val (.int (own_m0 i2 i4 i5)), .unset, .unset, .unset, .unset, .unset, .unset, .unset, .unset] []))
      refine own_on (fun _ k => XS.iloadN X9.here hx rfl (hb hby at_180) rfl k) ?_
      show own_Go p.tables e below _ (T9.setTop (mkF m 181 #[.val (.int i1), .val (.int i2), .val (.int i3), .val (.int i4), .val (.int i5), .val (.int i6), .val (.int (own_l i1)), .val (.int (own_lo i1)), .val (.int (own_hi i1)), .val (.int (own_l i2)), .val (.int (own_lo i2)), .val (.int (own_hi i2)), .val (.int (own_lb i1 i3 i5)), .val (.int (own_b0 i1 i3 i5)), .val (.int (own_b1 i1 i3 i5)), .val (.int (own_kb i2 i4 i5)), .val (.int (own_m0 i2 i4 i5)), .unset, .unset, .unset, .unset, .unset, .unset, .unset, .unset] [(.int i4)]))
      refine own_on (fun _ k => XT.bipushV X9.here hx rfl (8 : Int32) (hb hby at_181) (by decide) k) ?_
      show own_Go p.tables e below _ (T9.setTop (mkF m 183 #[.val (.int i1), .val (.int i2), .val (.int i3), .val (.int i4), .val (.int i5), .val (.int i6), .val (.int (own_l i1)), .val (.int (own_lo i1)), .val (.int (own_hi i1)), .val (.int (own_l i2)), .val (.int (own_lo i2)), .val (.int (own_hi i2)), .val (.int (own_lb i1 i3 i5)), .val (.int (own_b0 i1 i3 i5)), .val (.int (own_b1 i1 i3 i5)), .val (.int (own_kb i2 i4 i5)), .val (.int (own_m0 i2 i4 i5)), .unset, .unset, .unset, .unset, .unset, .unset, .unset, .unset] [(.int (8 : Int32)), (.int i4)]))
      refine own_on (fun _ k => XT.iushr X9.here hx rfl (hb hby at_183) rfl k) ?_
      show own_Go p.tables e below _ (T9.setTop (mkF m 184 #[.val (.int i1), .val (.int i2), .val (.int i3), .val (.int i4), .val (.int i5), .val (.int i6), .val (.int (own_l i1)), .val (.int (own_lo i1)), .val (.int (own_hi i1)), .val (.int (own_l i2)), .val (.int (own_lo i2)), .val (.int (own_hi i2)), .val (.int (own_lb i1 i3 i5)), .val (.int (own_b0 i1 i3 i5)), .val (.int (own_b1 i1 i3 i5)), .val (.int (own_kb i2 i4 i5)), .val (.int (own_m0 i2 i4 i5)), .unset, .unset, .unset, .unset, .unset, .unset, .unset, .unset] [(.int (XT.ushr i4 (8 : Int32)))]))
      refine own_on (fun _ k => XT.sipushV X9.here hx rfl (255 : Int32) (hb hby at_184) (by decide) k) ?_
      show own_Go p.tables e below _ (T9.setTop (mkF m 187 #[.val (.int i1), .val (.int i2), .val (.int i3), .val (.int i4), .val (.int i5), .val (.int i6), .val (.int (own_l i1)), .val (.int (own_lo i1)), .val (.int (own_hi i1)), .val (.int (own_l i2)), .val (.int (own_lo i2)), .val (.int (own_hi i2)), .val (.int (own_lb i1 i3 i5)), .val (.int (own_b0 i1 i3 i5)), .val (.int (own_b1 i1 i3 i5)), .val (.int (own_kb i2 i4 i5)), .val (.int (own_m0 i2 i4 i5)), .unset, .unset, .unset, .unset, .unset, .unset, .unset, .unset] [(.int (255 : Int32)), (.int (XT.ushr i4 (8 : Int32)))]))
      refine own_on (fun _ k => XS.iand X9.here hx rfl (hb hby at_187) rfl k) ?_
      show own_Go p.tables e below _ (T9.setTop (mkF m 188 #[.val (.int i1), .val (.int i2), .val (.int i3), .val (.int i4), .val (.int i5), .val (.int i6), .val (.int (own_l i1)), .val (.int (own_lo i1)), .val (.int (own_hi i1)), .val (.int (own_l i2)), .val (.int (own_lo i2)), .val (.int (own_hi i2)), .val (.int (own_lb i1 i3 i5)), .val (.int (own_b0 i1 i3 i5)), .val (.int (own_b1 i1 i3 i5)), .val (.int (own_kb i2 i4 i5)), .val (.int (own_m0 i2 i4 i5)), .unset, .unset, .unset, .unset, .unset, .unset, .unset, .unset] [(.int ((XT.ushr i4 (8 : Int32)) &&& (255 : Int32)))]))
      refine own_on (fun _ k => XT.i2c X9.here hx rfl (hb hby at_188) rfl k) ?_
      show own_Go p.tables e below _ (T9.setTop (mkF m 189 #[.val (.int i1), .val (.int i2), .val (.int i3), .val (.int i4), .val (.int i5), .val (.int i6), .val (.int (own_l i1)), .val (.int (own_lo i1)), .val (.int (own_hi i1)), .val (.int (own_l i2)), .val (.int (own_lo i2)), .val (.int (own_hi i2)), .val (.int (own_lb i1 i3 i5)), .val (.int (own_b0 i1 i3 i5)), .val (.int (own_b1 i1 i3 i5)), .val (.int (own_kb i2 i4 i5)), .val (.int (own_m0 i2 i4 i5)), .unset, .unset, .unset, .unset, .unset, .unset, .unset, .unset] [(.int (((XT.ushr i4 (8 : Int32)) &&& (255 : Int32)).toUInt32.toUInt16.toUInt32.toInt32))]))
      exact own_here ⟨T9, _, X9, N9, e9, by rw [show (own_m1 i2 i4 i5) = (((XT.ushr i4 (8 : Int32)) &&& (255 : Int32)).toUInt32.toUInt16.toUInt32.toInt32) from by simp only [own_m1, if_pos hc12] <;> rfl]⟩
    · refine own_on (fun _ k => XS.ifNo X9.here hx rfl (hb hby at_172) rfl (XT.i0_eq_f hc12) k) ?_
      show own_Go p.tables e below _ (T9.setTop (mkF m 175 #[.val (.int i1), .val (.int i2), .val (.int i3), .val (.int i4), .val (.int i5), .val (.int i6), .val (.int (own_l i1)), .val (.int (own_lo i1)), .val (.int (own_hi i1)), .val (.int (own_l i2)), .val (.int (own_lo i2)), .val (.int (own_hi i2)), .val (.int (own_lb i1 i3 i5)), .val (.int (own_b0 i1 i3 i5)), .val (.int (own_b1 i1 i3 i5)), .val (.int (own_kb i2 i4 i5)), .val (.int (own_m0 i2 i4 i5)), .unset, .unset, .unset, .unset, .unset, .unset, .unset, .unset] []))
      refine own_on (fun _ k => XS.iload X9.here hx rfl (hb hby at_175) rfl k) ?_
      show own_Go p.tables e below _ (T9.setTop (mkF m 177 #[.val (.int i1), .val (.int i2), .val (.int i3), .val (.int i4), .val (.int i5), .val (.int i6), .val (.int (own_l i1)), .val (.int (own_lo i1)), .val (.int (own_hi i1)), .val (.int (own_l i2)), .val (.int (own_lo i2)), .val (.int (own_hi i2)), .val (.int (own_lb i1 i3 i5)), .val (.int (own_b0 i1 i3 i5)), .val (.int (own_b1 i1 i3 i5)), .val (.int (own_kb i2 i4 i5)), .val (.int (own_m0 i2 i4 i5)), .unset, .unset, .unset, .unset, .unset, .unset, .unset, .unset] [(.int (own_hi i2))]))
      refine own_on (fun _ k => XS.goto X9.here hx rfl (pc0 := 177) (pc' := 189) rfl (hb hby at_177) (by decide) (by decide) k) ?_
      show own_Go p.tables e below _ (T9.setTop (mkF m 189 #[.val (.int i1), .val (.int i2), .val (.int i3), .val (.int i4), .val (.int i5), .val (.int i6), .val (.int (own_l i1)), .val (.int (own_lo i1)), .val (.int (own_hi i1)), .val (.int (own_l i2)), .val (.int (own_lo i2)), .val (.int (own_hi i2)), .val (.int (own_lb i1 i3 i5)), .val (.int (own_b0 i1 i3 i5)), .val (.int (own_b1 i1 i3 i5)), .val (.int (own_kb i2 i4 i5)), .val (.int (own_m0 i2 i4 i5)), .unset, .unset, .unset, .unset, .unset, .unset, .unset, .unset] [(.int (own_hi i2))]))
      exact own_here ⟨T9, _, X9, N9, e9, by rw [show (own_m1 i2 i4 i5) = (own_hi i2) from by simp only [own_m1, if_neg hc12] <;> rfl]⟩
  refine own_go st11 ?_
  show own_Fin p.tables e below _ (T11.setTop (mkF m 189 #[.val (.int i1), .val (.int i2), .val (.int i3), .val (.int i4), .val (.int i5), .val (.int i6), .val (.int (own_l i1)), .val (.int (own_lo i1)), .val (.int (own_hi i1)), .val (.int (own_l i2)), .val (.int (own_lo i2)), .val (.int (own_hi i2)), .val (.int (own_lb i1 i3 i5)), .val (.int (own_b0 i1 i3 i5)), .val (.int (own_b1 i1 i3 i5)), .val (.int (own_kb i2 i4 i5)), .val (.int (own_m0 i2 i4 i5)), .unset, .unset, .unset, .unset, .unset, .unset, .unset, .unset] [(.int (own_m1 i2 i4 i5))]))
  refine own_go (fun _ k => XS.istore X11.here hx rfl (hb hby at_189) rfl (l' := #[.val (.int i1), .val (.int i2), .val (.int i3), .val (.int i4), .val (.int i5), .val (.int i6), .val (.int (own_l i1)), .val (.int (own_lo i1)), .val (.int (own_hi i1)), .val (.int (own_l i2)), .val (.int (own_lo i2)), .val (.int (own_hi i2)), .val (.int (own_lb i1 i3 i5)), .val (.int (own_b0 i1 i3 i5)), .val (.int (own_b1 i1 i3 i5)), .val (.int (own_kb i2 i4 i5)), .val (.int (own_m0 i2 i4 i5)), .val (.int (own_m1 i2 i4 i5)), .unset, .unset, .unset, .unset, .unset, .unset, .unset]) rfl k) ?_
  show own_Fin p.tables e below _ (T11.setTop (mkF m 191 #[.val (.int i1), .val (.int i2), .val (.int i3), .val (.int i4), .val (.int i5), .val (.int i6), .val (.int (own_l i1)), .val (.int (own_lo i1)), .val (.int (own_hi i1)), .val (.int (own_l i2)), .val (.int (own_lo i2)), .val (.int (own_hi i2)), .val (.int (own_lb i1 i3 i5)), .val (.int (own_b0 i1 i3 i5)), .val (.int (own_b1 i1 i3 i5)), .val (.int (own_kb i2 i4 i5)), .val (.int (own_m0 i2 i4 i5)), .val (.int (own_m1 i2 i4 i5)), .unset, .unset, .unset, .unset, .unset, .unset, .unset] []))
  refine own_go (fun _ k => XS.iload X11.here hx rfl (hb hby at_191) rfl k) ?_
  show own_Fin p.tables e below _ (T11.setTop (mkF m 193 #[.val (.int i1), .val (.int i2), .val (.int i3), .val (.int i4), .val (.int i5), .val (.int i6), .val (.int (own_l i1)), .val (.int (own_lo i1)), .val (.int (own_hi i1)), .val (.int (own_l i2)), .val (.int (own_lo i2)), .val (.int (own_hi i2)), .val (.int (own_lb i1 i3 i5)), .val (.int (own_b0 i1 i3 i5)), .val (.int (own_b1 i1 i3 i5)), .val (.int (own_kb i2 i4 i5)), .val (.int (own_m0 i2 i4 i5)), .val (.int (own_m1 i2 i4 i5)), .unset, .unset, .unset, .unset, .unset, .unset, .unset] [(.int i6)]))
  refine own_go (fun _ k => XT.bipushV X11.here hx rfl (16 : Int32) (hb hby at_193) (by decide) k) ?_
  show own_Fin p.tables e below _ (T11.setTop (mkF m 195 #[.val (.int i1), .val (.int i2), .val (.int i3), .val (.int i4), .val (.int i5), .val (.int i6), .val (.int (own_l i1)), .val (.int (own_lo i1)), .val (.int (own_hi i1)), .val (.int (own_l i2)), .val (.int (own_lo i2)), .val (.int (own_hi i2)), .val (.int (own_lb i1 i3 i5)), .val (.int (own_b0 i1 i3 i5)), .val (.int (own_b1 i1 i3 i5)), .val (.int (own_kb i2 i4 i5)), .val (.int (own_m0 i2 i4 i5)), .val (.int (own_m1 i2 i4 i5)), .unset, .unset, .unset, .unset, .unset, .unset, .unset] [(.int (16 : Int32)), (.int i6)]))
  refine own_go (fun _ k => XT.iushr X11.here hx rfl (hb hby at_195) rfl k) ?_
  show own_Fin p.tables e below _ (T11.setTop (mkF m 196 #[.val (.int i1), .val (.int i2), .val (.int i3), .val (.int i4), .val (.int i5), .val (.int i6), .val (.int (own_l i1)), .val (.int (own_lo i1)), .val (.int (own_hi i1)), .val (.int (own_l i2)), .val (.int (own_lo i2)), .val (.int (own_hi i2)), .val (.int (own_lb i1 i3 i5)), .val (.int (own_b0 i1 i3 i5)), .val (.int (own_b1 i1 i3 i5)), .val (.int (own_kb i2 i4 i5)), .val (.int (own_m0 i2 i4 i5)), .val (.int (own_m1 i2 i4 i5)), .unset, .unset, .unset, .unset, .unset, .unset, .unset] [(.int (XT.ushr i6 (16 : Int32)))]))
  refine own_go (fun _ k => XT.iconstV X11.here hx rfl (1 : Int32) (hb hby at_196) (by decide) k) ?_
  show own_Fin p.tables e below _ (T11.setTop (mkF m 197 #[.val (.int i1), .val (.int i2), .val (.int i3), .val (.int i4), .val (.int i5), .val (.int i6), .val (.int (own_l i1)), .val (.int (own_lo i1)), .val (.int (own_hi i1)), .val (.int (own_l i2)), .val (.int (own_lo i2)), .val (.int (own_hi i2)), .val (.int (own_lb i1 i3 i5)), .val (.int (own_b0 i1 i3 i5)), .val (.int (own_b1 i1 i3 i5)), .val (.int (own_kb i2 i4 i5)), .val (.int (own_m0 i2 i4 i5)), .val (.int (own_m1 i2 i4 i5)), .unset, .unset, .unset, .unset, .unset, .unset, .unset] [(.int (1 : Int32)), (.int (XT.ushr i6 (16 : Int32)))]))
  refine own_go (fun _ k => XS.iand X11.here hx rfl (hb hby at_197) rfl k) ?_
  show own_Fin p.tables e below _ (T11.setTop (mkF m 198 #[.val (.int i1), .val (.int i2), .val (.int i3), .val (.int i4), .val (.int i5), .val (.int i6), .val (.int (own_l i1)), .val (.int (own_lo i1)), .val (.int (own_hi i1)), .val (.int (own_l i2)), .val (.int (own_lo i2)), .val (.int (own_hi i2)), .val (.int (own_lb i1 i3 i5)), .val (.int (own_b0 i1 i3 i5)), .val (.int (own_b1 i1 i3 i5)), .val (.int (own_kb i2 i4 i5)), .val (.int (own_m0 i2 i4 i5)), .val (.int (own_m1 i2 i4 i5)), .unset, .unset, .unset, .unset, .unset, .unset, .unset] [(.int ((XT.ushr i6 (16 : Int32)) &&& (1 : Int32)))]))
  refine own_go (fun _ k => XS.istore X11.here hx rfl (hb hby at_198) rfl (l' := #[.val (.int i1), .val (.int i2), .val (.int i3), .val (.int i4), .val (.int i5), .val (.int i6), .val (.int (own_l i1)), .val (.int (own_lo i1)), .val (.int (own_hi i1)), .val (.int (own_l i2)), .val (.int (own_lo i2)), .val (.int (own_hi i2)), .val (.int (own_lb i1 i3 i5)), .val (.int (own_b0 i1 i3 i5)), .val (.int (own_b1 i1 i3 i5)), .val (.int (own_kb i2 i4 i5)), .val (.int (own_m0 i2 i4 i5)), .val (.int (own_m1 i2 i4 i5)), .val (.int (own_n1 i6)), .unset, .unset, .unset, .unset, .unset, .unset]) rfl k) ?_
  show own_Fin p.tables e below _ (T11.setTop (mkF m 200 #[.val (.int i1), .val (.int i2), .val (.int i3), .val (.int i4), .val (.int i5), .val (.int i6), .val (.int (own_l i1)), .val (.int (own_lo i1)), .val (.int (own_hi i1)), .val (.int (own_l i2)), .val (.int (own_lo i2)), .val (.int (own_hi i2)), .val (.int (own_lb i1 i3 i5)), .val (.int (own_b0 i1 i3 i5)), .val (.int (own_b1 i1 i3 i5)), .val (.int (own_kb i2 i4 i5)), .val (.int (own_m0 i2 i4 i5)), .val (.int (own_m1 i2 i4 i5)), .val (.int (own_n1 i6)), .unset, .unset, .unset, .unset, .unset, .unset] []))
  refine own_go (fun _ k => XS.iload X11.here hx rfl (hb hby at_200) rfl k) ?_
  show own_Fin p.tables e below _ (T11.setTop (mkF m 202 #[.val (.int i1), .val (.int i2), .val (.int i3), .val (.int i4), .val (.int i5), .val (.int i6), .val (.int (own_l i1)), .val (.int (own_lo i1)), .val (.int (own_hi i1)), .val (.int (own_l i2)), .val (.int (own_lo i2)), .val (.int (own_hi i2)), .val (.int (own_lb i1 i3 i5)), .val (.int (own_b0 i1 i3 i5)), .val (.int (own_b1 i1 i3 i5)), .val (.int (own_kb i2 i4 i5)), .val (.int (own_m0 i2 i4 i5)), .val (.int (own_m1 i2 i4 i5)), .val (.int (own_n1 i6)), .unset, .unset, .unset, .unset, .unset, .unset] [(.int i6)]))
  refine own_go (fun _ k => XT.bipushV X11.here hx rfl (17 : Int32) (hb hby at_202) (by decide) k) ?_
  show own_Fin p.tables e below _ (T11.setTop (mkF m 204 #[.val (.int i1), .val (.int i2), .val (.int i3), .val (.int i4), .val (.int i5), .val (.int i6), .val (.int (own_l i1)), .val (.int (own_lo i1)), .val (.int (own_hi i1)), .val (.int (own_l i2)), .val (.int (own_lo i2)), .val (.int (own_hi i2)), .val (.int (own_lb i1 i3 i5)), .val (.int (own_b0 i1 i3 i5)), .val (.int (own_b1 i1 i3 i5)), .val (.int (own_kb i2 i4 i5)), .val (.int (own_m0 i2 i4 i5)), .val (.int (own_m1 i2 i4 i5)), .val (.int (own_n1 i6)), .unset, .unset, .unset, .unset, .unset, .unset] [(.int (17 : Int32)), (.int i6)]))
  refine own_go (fun _ k => XT.iushr X11.here hx rfl (hb hby at_204) rfl k) ?_
  show own_Fin p.tables e below _ (T11.setTop (mkF m 205 #[.val (.int i1), .val (.int i2), .val (.int i3), .val (.int i4), .val (.int i5), .val (.int i6), .val (.int (own_l i1)), .val (.int (own_lo i1)), .val (.int (own_hi i1)), .val (.int (own_l i2)), .val (.int (own_lo i2)), .val (.int (own_hi i2)), .val (.int (own_lb i1 i3 i5)), .val (.int (own_b0 i1 i3 i5)), .val (.int (own_b1 i1 i3 i5)), .val (.int (own_kb i2 i4 i5)), .val (.int (own_m0 i2 i4 i5)), .val (.int (own_m1 i2 i4 i5)), .val (.int (own_n1 i6)), .unset, .unset, .unset, .unset, .unset, .unset] [(.int (XT.ushr i6 (17 : Int32)))]))
  refine own_go (fun _ k => XT.iconstV X11.here hx rfl (1 : Int32) (hb hby at_205) (by decide) k) ?_
  show own_Fin p.tables e below _ (T11.setTop (mkF m 206 #[.val (.int i1), .val (.int i2), .val (.int i3), .val (.int i4), .val (.int i5), .val (.int i6), .val (.int (own_l i1)), .val (.int (own_lo i1)), .val (.int (own_hi i1)), .val (.int (own_l i2)), .val (.int (own_lo i2)), .val (.int (own_hi i2)), .val (.int (own_lb i1 i3 i5)), .val (.int (own_b0 i1 i3 i5)), .val (.int (own_b1 i1 i3 i5)), .val (.int (own_kb i2 i4 i5)), .val (.int (own_m0 i2 i4 i5)), .val (.int (own_m1 i2 i4 i5)), .val (.int (own_n1 i6)), .unset, .unset, .unset, .unset, .unset, .unset] [(.int (1 : Int32)), (.int (XT.ushr i6 (17 : Int32)))]))
  refine own_go (fun _ k => XS.iand X11.here hx rfl (hb hby at_206) rfl k) ?_
  show own_Fin p.tables e below _ (T11.setTop (mkF m 207 #[.val (.int i1), .val (.int i2), .val (.int i3), .val (.int i4), .val (.int i5), .val (.int i6), .val (.int (own_l i1)), .val (.int (own_lo i1)), .val (.int (own_hi i1)), .val (.int (own_l i2)), .val (.int (own_lo i2)), .val (.int (own_hi i2)), .val (.int (own_lb i1 i3 i5)), .val (.int (own_b0 i1 i3 i5)), .val (.int (own_b1 i1 i3 i5)), .val (.int (own_kb i2 i4 i5)), .val (.int (own_m0 i2 i4 i5)), .val (.int (own_m1 i2 i4 i5)), .val (.int (own_n1 i6)), .unset, .unset, .unset, .unset, .unset, .unset] [(.int ((XT.ushr i6 (17 : Int32)) &&& (1 : Int32)))]))
  refine own_go (fun _ k => XS.istore X11.here hx rfl (hb hby at_207) rfl (l' := #[.val (.int i1), .val (.int i2), .val (.int i3), .val (.int i4), .val (.int i5), .val (.int i6), .val (.int (own_l i1)), .val (.int (own_lo i1)), .val (.int (own_hi i1)), .val (.int (own_l i2)), .val (.int (own_lo i2)), .val (.int (own_hi i2)), .val (.int (own_lb i1 i3 i5)), .val (.int (own_b0 i1 i3 i5)), .val (.int (own_b1 i1 i3 i5)), .val (.int (own_kb i2 i4 i5)), .val (.int (own_m0 i2 i4 i5)), .val (.int (own_m1 i2 i4 i5)), .val (.int (own_n1 i6)), .val (.int (own_n2 i6)), .unset, .unset, .unset, .unset, .unset]) rfl k) ?_
  show own_Fin p.tables e below _ (T11.setTop (mkF m 209 #[.val (.int i1), .val (.int i2), .val (.int i3), .val (.int i4), .val (.int i5), .val (.int i6), .val (.int (own_l i1)), .val (.int (own_lo i1)), .val (.int (own_hi i1)), .val (.int (own_l i2)), .val (.int (own_lo i2)), .val (.int (own_hi i2)), .val (.int (own_lb i1 i3 i5)), .val (.int (own_b0 i1 i3 i5)), .val (.int (own_b1 i1 i3 i5)), .val (.int (own_kb i2 i4 i5)), .val (.int (own_m0 i2 i4 i5)), .val (.int (own_m1 i2 i4 i5)), .val (.int (own_n1 i6)), .val (.int (own_n2 i6)), .unset, .unset, .unset, .unset, .unset] []))
  refine own_go (fun _ k => XS.iload X11.here hx rfl (hb hby at_209) rfl k) ?_
  show own_Fin p.tables e below _ (T11.setTop (mkF m 211 #[.val (.int i1), .val (.int i2), .val (.int i3), .val (.int i4), .val (.int i5), .val (.int i6), .val (.int (own_l i1)), .val (.int (own_lo i1)), .val (.int (own_hi i1)), .val (.int (own_l i2)), .val (.int (own_lo i2)), .val (.int (own_hi i2)), .val (.int (own_lb i1 i3 i5)), .val (.int (own_b0 i1 i3 i5)), .val (.int (own_b1 i1 i3 i5)), .val (.int (own_kb i2 i4 i5)), .val (.int (own_m0 i2 i4 i5)), .val (.int (own_m1 i2 i4 i5)), .val (.int (own_n1 i6)), .val (.int (own_n2 i6)), .unset, .unset, .unset, .unset, .unset] [(.int i6)]))
  refine own_go (fun _ k => XT.sipushV X11.here hx rfl (255 : Int32) (hb hby at_211) (by decide) k) ?_
  show own_Fin p.tables e below _ (T11.setTop (mkF m 214 #[.val (.int i1), .val (.int i2), .val (.int i3), .val (.int i4), .val (.int i5), .val (.int i6), .val (.int (own_l i1)), .val (.int (own_lo i1)), .val (.int (own_hi i1)), .val (.int (own_l i2)), .val (.int (own_lo i2)), .val (.int (own_hi i2)), .val (.int (own_lb i1 i3 i5)), .val (.int (own_b0 i1 i3 i5)), .val (.int (own_b1 i1 i3 i5)), .val (.int (own_kb i2 i4 i5)), .val (.int (own_m0 i2 i4 i5)), .val (.int (own_m1 i2 i4 i5)), .val (.int (own_n1 i6)), .val (.int (own_n2 i6)), .unset, .unset, .unset, .unset, .unset] [(.int (255 : Int32)), (.int i6)]))
  refine own_go (fun _ k => XS.iand X11.here hx rfl (hb hby at_214) rfl k) ?_
  show own_Fin p.tables e below _ (T11.setTop (mkF m 215 #[.val (.int i1), .val (.int i2), .val (.int i3), .val (.int i4), .val (.int i5), .val (.int i6), .val (.int (own_l i1)), .val (.int (own_lo i1)), .val (.int (own_hi i1)), .val (.int (own_l i2)), .val (.int (own_lo i2)), .val (.int (own_hi i2)), .val (.int (own_lb i1 i3 i5)), .val (.int (own_b0 i1 i3 i5)), .val (.int (own_b1 i1 i3 i5)), .val (.int (own_kb i2 i4 i5)), .val (.int (own_m0 i2 i4 i5)), .val (.int (own_m1 i2 i4 i5)), .val (.int (own_n1 i6)), .val (.int (own_n2 i6)), .unset, .unset, .unset, .unset, .unset] [(.int (i6 &&& (255 : Int32)))]))
  refine own_go (fun _ k => XT.i2c X11.here hx rfl (hb hby at_215) rfl k) ?_
  show own_Fin p.tables e below _ (T11.setTop (mkF m 216 #[.val (.int i1), .val (.int i2), .val (.int i3), .val (.int i4), .val (.int i5), .val (.int i6), .val (.int (own_l i1)), .val (.int (own_lo i1)), .val (.int (own_hi i1)), .val (.int (own_l i2)), .val (.int (own_lo i2)), .val (.int (own_hi i2)), .val (.int (own_lb i1 i3 i5)), .val (.int (own_b0 i1 i3 i5)), .val (.int (own_b1 i1 i3 i5)), .val (.int (own_kb i2 i4 i5)), .val (.int (own_m0 i2 i4 i5)), .val (.int (own_m1 i2 i4 i5)), .val (.int (own_n1 i6)), .val (.int (own_n2 i6)), .unset, .unset, .unset, .unset, .unset] [(.int ((i6 &&& (255 : Int32)).toUInt32.toUInt16.toUInt32.toInt32))]))
  refine own_go (fun _ k => XS.istore X11.here hx rfl (hb hby at_216) rfl (l' := #[.val (.int i1), .val (.int i2), .val (.int i3), .val (.int i4), .val (.int i5), .val (.int i6), .val (.int (own_l i1)), .val (.int (own_lo i1)), .val (.int (own_hi i1)), .val (.int (own_l i2)), .val (.int (own_lo i2)), .val (.int (own_hi i2)), .val (.int (own_lb i1 i3 i5)), .val (.int (own_b0 i1 i3 i5)), .val (.int (own_b1 i1 i3 i5)), .val (.int (own_kb i2 i4 i5)), .val (.int (own_m0 i2 i4 i5)), .val (.int (own_m1 i2 i4 i5)), .val (.int (own_n1 i6)), .val (.int (own_n2 i6)), .val (.int (own_lo i6)), .unset, .unset, .unset, .unset]) rfl k) ?_
  show own_Fin p.tables e below _ (T11.setTop (mkF m 218 #[.val (.int i1), .val (.int i2), .val (.int i3), .val (.int i4), .val (.int i5), .val (.int i6), .val (.int (own_l i1)), .val (.int (own_lo i1)), .val (.int (own_hi i1)), .val (.int (own_l i2)), .val (.int (own_lo i2)), .val (.int (own_hi i2)), .val (.int (own_lb i1 i3 i5)), .val (.int (own_b0 i1 i3 i5)), .val (.int (own_b1 i1 i3 i5)), .val (.int (own_kb i2 i4 i5)), .val (.int (own_m0 i2 i4 i5)), .val (.int (own_m1 i2 i4 i5)), .val (.int (own_n1 i6)), .val (.int (own_n2 i6)), .val (.int (own_lo i6)), .unset, .unset, .unset, .unset] []))
  refine own_go (fun _ k => XS.iload X11.here hx rfl (hb hby at_218) rfl k) ?_
  show own_Fin p.tables e below _ (T11.setTop (mkF m 220 #[.val (.int i1), .val (.int i2), .val (.int i3), .val (.int i4), .val (.int i5), .val (.int i6), .val (.int (own_l i1)), .val (.int (own_lo i1)), .val (.int (own_hi i1)), .val (.int (own_l i2)), .val (.int (own_lo i2)), .val (.int (own_hi i2)), .val (.int (own_lb i1 i3 i5)), .val (.int (own_b0 i1 i3 i5)), .val (.int (own_b1 i1 i3 i5)), .val (.int (own_kb i2 i4 i5)), .val (.int (own_m0 i2 i4 i5)), .val (.int (own_m1 i2 i4 i5)), .val (.int (own_n1 i6)), .val (.int (own_n2 i6)), .val (.int (own_lo i6)), .unset, .unset, .unset, .unset] [(.int i6)]))
  refine own_go (fun _ k => XT.bipushV X11.here hx rfl (8 : Int32) (hb hby at_220) (by decide) k) ?_
  show own_Fin p.tables e below _ (T11.setTop (mkF m 222 #[.val (.int i1), .val (.int i2), .val (.int i3), .val (.int i4), .val (.int i5), .val (.int i6), .val (.int (own_l i1)), .val (.int (own_lo i1)), .val (.int (own_hi i1)), .val (.int (own_l i2)), .val (.int (own_lo i2)), .val (.int (own_hi i2)), .val (.int (own_lb i1 i3 i5)), .val (.int (own_b0 i1 i3 i5)), .val (.int (own_b1 i1 i3 i5)), .val (.int (own_kb i2 i4 i5)), .val (.int (own_m0 i2 i4 i5)), .val (.int (own_m1 i2 i4 i5)), .val (.int (own_n1 i6)), .val (.int (own_n2 i6)), .val (.int (own_lo i6)), .unset, .unset, .unset, .unset] [(.int (8 : Int32)), (.int i6)]))
  refine own_go (fun _ k => XT.iushr X11.here hx rfl (hb hby at_222) rfl k) ?_
  show own_Fin p.tables e below _ (T11.setTop (mkF m 223 #[.val (.int i1), .val (.int i2), .val (.int i3), .val (.int i4), .val (.int i5), .val (.int i6), .val (.int (own_l i1)), .val (.int (own_lo i1)), .val (.int (own_hi i1)), .val (.int (own_l i2)), .val (.int (own_lo i2)), .val (.int (own_hi i2)), .val (.int (own_lb i1 i3 i5)), .val (.int (own_b0 i1 i3 i5)), .val (.int (own_b1 i1 i3 i5)), .val (.int (own_kb i2 i4 i5)), .val (.int (own_m0 i2 i4 i5)), .val (.int (own_m1 i2 i4 i5)), .val (.int (own_n1 i6)), .val (.int (own_n2 i6)), .val (.int (own_lo i6)), .unset, .unset, .unset, .unset] [(.int (XT.ushr i6 (8 : Int32)))]))
  refine own_go (fun _ k => XT.sipushV X11.here hx rfl (255 : Int32) (hb hby at_223) (by decide) k) ?_
  show own_Fin p.tables e below _ (T11.setTop (mkF m 226 #[.val (.int i1), .val (.int i2), .val (.int i3), .val (.int i4), .val (.int i5), .val (.int i6), .val (.int (own_l i1)), .val (.int (own_lo i1)), .val (.int (own_hi i1)), .val (.int (own_l i2)), .val (.int (own_lo i2)), .val (.int (own_hi i2)), .val (.int (own_lb i1 i3 i5)), .val (.int (own_b0 i1 i3 i5)), .val (.int (own_b1 i1 i3 i5)), .val (.int (own_kb i2 i4 i5)), .val (.int (own_m0 i2 i4 i5)), .val (.int (own_m1 i2 i4 i5)), .val (.int (own_n1 i6)), .val (.int (own_n2 i6)), .val (.int (own_lo i6)), .unset, .unset, .unset, .unset] [(.int (255 : Int32)), (.int (XT.ushr i6 (8 : Int32)))]))
  refine own_go (fun _ k => XS.iand X11.here hx rfl (hb hby at_226) rfl k) ?_
  show own_Fin p.tables e below _ (T11.setTop (mkF m 227 #[.val (.int i1), .val (.int i2), .val (.int i3), .val (.int i4), .val (.int i5), .val (.int i6), .val (.int (own_l i1)), .val (.int (own_lo i1)), .val (.int (own_hi i1)), .val (.int (own_l i2)), .val (.int (own_lo i2)), .val (.int (own_hi i2)), .val (.int (own_lb i1 i3 i5)), .val (.int (own_b0 i1 i3 i5)), .val (.int (own_b1 i1 i3 i5)), .val (.int (own_kb i2 i4 i5)), .val (.int (own_m0 i2 i4 i5)), .val (.int (own_m1 i2 i4 i5)), .val (.int (own_n1 i6)), .val (.int (own_n2 i6)), .val (.int (own_lo i6)), .unset, .unset, .unset, .unset] [(.int ((XT.ushr i6 (8 : Int32)) &&& (255 : Int32)))]))
  refine own_go (fun _ k => XT.i2c X11.here hx rfl (hb hby at_227) rfl k) ?_
  show own_Fin p.tables e below _ (T11.setTop (mkF m 228 #[.val (.int i1), .val (.int i2), .val (.int i3), .val (.int i4), .val (.int i5), .val (.int i6), .val (.int (own_l i1)), .val (.int (own_lo i1)), .val (.int (own_hi i1)), .val (.int (own_l i2)), .val (.int (own_lo i2)), .val (.int (own_hi i2)), .val (.int (own_lb i1 i3 i5)), .val (.int (own_b0 i1 i3 i5)), .val (.int (own_b1 i1 i3 i5)), .val (.int (own_kb i2 i4 i5)), .val (.int (own_m0 i2 i4 i5)), .val (.int (own_m1 i2 i4 i5)), .val (.int (own_n1 i6)), .val (.int (own_n2 i6)), .val (.int (own_lo i6)), .unset, .unset, .unset, .unset] [(.int (((XT.ushr i6 (8 : Int32)) &&& (255 : Int32)).toUInt32.toUInt16.toUInt32.toInt32))]))
  refine own_go (fun _ k => XS.istore X11.here hx rfl (hb hby at_228) rfl (l' := #[.val (.int i1), .val (.int i2), .val (.int i3), .val (.int i4), .val (.int i5), .val (.int i6), .val (.int (own_l i1)), .val (.int (own_lo i1)), .val (.int (own_hi i1)), .val (.int (own_l i2)), .val (.int (own_lo i2)), .val (.int (own_hi i2)), .val (.int (own_lb i1 i3 i5)), .val (.int (own_b0 i1 i3 i5)), .val (.int (own_b1 i1 i3 i5)), .val (.int (own_kb i2 i4 i5)), .val (.int (own_m0 i2 i4 i5)), .val (.int (own_m1 i2 i4 i5)), .val (.int (own_n1 i6)), .val (.int (own_n2 i6)), .val (.int (own_lo i6)), .val (.int (own_hi i6)), .unset, .unset, .unset]) rfl k) ?_
  show own_Fin p.tables e below _ (T11.setTop (mkF m 230 #[.val (.int i1), .val (.int i2), .val (.int i3), .val (.int i4), .val (.int i5), .val (.int i6), .val (.int (own_l i1)), .val (.int (own_lo i1)), .val (.int (own_hi i1)), .val (.int (own_l i2)), .val (.int (own_lo i2)), .val (.int (own_hi i2)), .val (.int (own_lb i1 i3 i5)), .val (.int (own_b0 i1 i3 i5)), .val (.int (own_b1 i1 i3 i5)), .val (.int (own_kb i2 i4 i5)), .val (.int (own_m0 i2 i4 i5)), .val (.int (own_m1 i2 i4 i5)), .val (.int (own_n1 i6)), .val (.int (own_n2 i6)), .val (.int (own_lo i6)), .val (.int (own_hi i6)), .unset, .unset, .unset] []))
  obtain ⟨T13, h13, X13, e13, E13, A13, D13, -, st13⟩ := newO X11 hx hZ hown (hw _ (List.mem_of_getElem? (i := 0) rfl)) (hw _ (List.mem_of_getElem? (i := 1) rfl)) (hw _ (List.mem_of_getElem? (i := 2) rfl)) e11 (g := (mkF m 230 #[.val (.int i1), .val (.int i2), .val (.int i3), .val (.int i4), .val (.int i5), .val (.int i6), .val (.int (own_l i1)), .val (.int (own_lo i1)), .val (.int (own_hi i1)), .val (.int (own_l i2)), .val (.int (own_lo i2)), .val (.int (own_hi i2)), .val (.int (own_lb i1 i3 i5)), .val (.int (own_b0 i1 i3 i5)), .val (.int (own_b1 i1 i3 i5)), .val (.int (own_kb i2 i4 i5)), .val (.int (own_m0 i2 i4 i5)), .val (.int (own_m1 i2 i4 i5)), .val (.int (own_n1 i6)), .val (.int (own_n2 i6)), .val (.int (own_lo i6)), .val (.int (own_hi i6)), .unset, .unset, .unset] [])) rfl (hb hby at_230) (by decide) (by decide)
  obtain ⟨a13, g13⟩ : ∃ z, z = h0.size := ⟨_, rfl⟩
  rw [← g13] at A13 D13 st13
  have q13 : h0.size ≤ a13 := Nat.le_trans K0.1 (Nat.le_of_eq g13.symm)
  have z13 : n0 ≤ a13 := Nat.le_trans Z0 q13
  have LO_13 := LO0.ext E13
  have O_13 := O0.ext E13
  have K13 := K0.ext E13
  have Fa13_className : Fld Z h13 a13 "com/example/grantline/grantline/eval/ComparablePrincipal" "className" "Ljava/lang/String;" .null := D13 (Or.inr (hw _ (List.mem_of_getElem? (i := 39) rfl))) (ty := (.object "java/lang/String")) (by decide)
  have Fa13_name : Fld Z h13 a13 "com/example/grantline/grantline/eval/ComparablePrincipal" "name" "Ljava/lang/String;" .null := D13 (Or.inr (hw _ (List.mem_of_getElem? (i := 41) rfl))) (ty := (.object "java/lang/String")) (by decide)
  have Fa13_key : Fld Z h13 a13 "com/example/grantline/grantline/eval/ComparablePrincipal" "key" "Ljava/lang/String;" .null := D13 (Or.inr (hw _ (List.mem_of_getElem? (i := 43) rfl))) (ty := (.object "java/lang/String")) (by decide)
  refine own_go st13 ?_
  show own_Fin p.tables e below _ (T13.setTop (mkF m 233 #[.val (.int i1), .val (.int i2), .val (.int i3), .val (.int i4), .val (.int i5), .val (.int i6), .val (.int (own_l i1)), .val (.int (own_lo i1)), .val (.int (own_hi i1)), .val (.int (own_l i2)), .val (.int (own_lo i2)), .val (.int (own_hi i2)), .val (.int (own_lb i1 i3 i5)), .val (.int (own_b0 i1 i3 i5)), .val (.int (own_b1 i1 i3 i5)), .val (.int (own_kb i2 i4 i5)), .val (.int (own_m0 i2 i4 i5)), .val (.int (own_m1 i2 i4 i5)), .val (.int (own_n1 i6)), .val (.int (own_n2 i6)), .val (.int (own_lo i6)), .val (.int (own_hi i6)), .unset, .unset, .unset] [(.ref a13)]))
  refine own_go (fun _ k => XS.dup X13.here hx rfl (hb hby at_233) rfl rfl k) ?_
  show own_Fin p.tables e below _ (T13.setTop (mkF m 234 #[.val (.int i1), .val (.int i2), .val (.int i3), .val (.int i4), .val (.int i5), .val (.int i6), .val (.int (own_l i1)), .val (.int (own_lo i1)), .val (.int (own_hi i1)), .val (.int (own_l i2)), .val (.int (own_lo i2)), .val (.int (own_hi i2)), .val (.int (own_lb i1 i3 i5)), .val (.int (own_b0 i1 i3 i5)), .val (.int (own_b1 i1 i3 i5)), .val (.int (own_kb i2 i4 i5)), .val (.int (own_m0 i2 i4 i5)), .val (.int (own_m1 i2 i4 i5)), .val (.int (own_n1 i6)), .val (.int (own_n2 i6)), .val (.int (own_lo i6)), .val (.int (own_hi i6)), .unset, .unset, .unset] [(.ref a13), (.ref a13)]))
  refine own_go (fun _ k => XS.iload X13.here hx rfl (hb hby at_234) rfl k) ?_
  show own_Fin p.tables e below _ (T13.setTop (mkF m 236 #[.val (.int i1), .val (.int i2), .val (.int i3), .val (.int i4), .val (.int i5), .val (.int i6), .val (.int (own_l i1)), .val (.int (own_lo i1)), .val (.int (own_hi i1)), .val (.int (own_l i2)), .val (.int (own_lo i2)), .val (.int (own_hi i2)), .val (.int (own_lb i1 i3 i5)), .val (.int (own_b0 i1 i3 i5)), .val (.int (own_b1 i1 i3 i5)), .val (.int (own_kb i2 i4 i5)), .val (.int (own_m0 i2 i4 i5)), .val (.int (own_m1 i2 i4 i5)), .val (.int (own_n1 i6)), .val (.int (own_n2 i6)), .val (.int (own_lo i6)), .val (.int (own_hi i6)), .unset, .unset, .unset] [(.int (own_l i1)), (.ref a13), (.ref a13)]))
  refine own_go (fun _ k => XS.iload X13.here hx rfl (hb hby at_236) rfl k) ?_
  show own_Fin p.tables e below _ (T13.setTop (mkF m 238 #[.val (.int i1), .val (.int i2), .val (.int i3), .val (.int i4), .val (.int i5), .val (.int i6), .val (.int (own_l i1)), .val (.int (own_lo i1)), .val (.int (own_hi i1)), .val (.int (own_l i2)), .val (.int (own_lo i2)), .val (.int (own_hi i2)), .val (.int (own_lb i1 i3 i5)), .val (.int (own_b0 i1 i3 i5)), .val (.int (own_b1 i1 i3 i5)), .val (.int (own_kb i2 i4 i5)), .val (.int (own_m0 i2 i4 i5)), .val (.int (own_m1 i2 i4 i5)), .val (.int (own_n1 i6)), .val (.int (own_n2 i6)), .val (.int (own_lo i6)), .val (.int (own_hi i6)), .unset, .unset, .unset] [(.int (own_lo i1)), (.int (own_l i1)), (.ref a13), (.ref a13)]))
  refine own_go (fun _ k => XS.iload X13.here hx rfl (hb hby at_238) rfl k) ?_
  show own_Fin p.tables e below _ (T13.setTop (mkF m 240 #[.val (.int i1), .val (.int i2), .val (.int i3), .val (.int i4), .val (.int i5), .val (.int i6), .val (.int (own_l i1)), .val (.int (own_lo i1)), .val (.int (own_hi i1)), .val (.int (own_l i2)), .val (.int (own_lo i2)), .val (.int (own_hi i2)), .val (.int (own_lb i1 i3 i5)), .val (.int (own_b0 i1 i3 i5)), .val (.int (own_b1 i1 i3 i5)), .val (.int (own_kb i2 i4 i5)), .val (.int (own_m0 i2 i4 i5)), .val (.int (own_m1 i2 i4 i5)), .val (.int (own_n1 i6)), .val (.int (own_n2 i6)), .val (.int (own_lo i6)), .val (.int (own_hi i6)), .unset, .unset, .unset] [(.int (own_hi i1)), (.int (own_lo i1)), (.int (own_l i1)), (.ref a13), (.ref a13)]))
  obtain ⟨_, T14, L14, X14, hZ14, hS14, ho14, ⟨a14, rfl, M14, KK14, q14, S14, LO14⟩, st14⟩ := own_callSW X13 hx hZ hS0 (Nat.zero_le _) hown (hw _ (List.mem_of_getElem? (i := 3) rfl)) (hw _ (List.mem_of_getElem? (i := 4) rfl)) (hw _ (List.mem_of_getElem? (i := 5) rfl)) (hw _ (List.mem_of_getElem? (i := 6) rfl)) (by decide) (W := 2) (rm2 l Z a0 hw [] (own_l i1) (own_lo i1) (own_hi i1) h13 n0 (Nat.le_trans Z0 K13.1) ic SC hz O_13 hheld hcw (own_lo_b i1) (own_hi_b i1)) (fun vm hv => own_LO.warm (LO_13.mono K13.1) hv) (by decide) (by decide) e13 (g := (mkF m 240 #[.val (.int i1), .val (.int i2), .val (.int i3), .val (.int i4), .val (.int i5), .val (.int i6), .val (.int (own_l i1)), .val (.int (own_lo i1)), .val (.int (own_hi i1)), .val (.int (own_l i2)), .val (.int (own_lo i2)), .val (.int (own_hi i2)), .val (.int (own_lb i1 i3 i5)), .val (.int (own_b0 i1 i3 i5)), .val (.int (own_b1 i1 i3 i5)), .val (.int (own_kb i2 i4 i5)), .val (.int (own_m0 i2 i4 i5)), .val (.int (own_m1 i2 i4 i5)), .val (.int (own_n1 i6)), .val (.int (own_n2 i6)), .val (.int (own_lo i6)), .val (.int (own_hi i6)), .unset, .unset, .unset] [(.int (own_hi i1)), (.int (own_lo i1)), (.int (own_l i1)), (.ref a13), (.ref a13)])) rfl (by rw [hml]; rfl) (argsL := [(.int (own_l i1)), (.int (own_lo i1)), (.int (own_hi i1))]) (rest := [(.ref a13), (.ref a13)]) rfl (lenOf pd3 rfl) rfl (by show 2 * 0 + _ ≤ _; exact Nat.le_of_eq rfl) (hb hby at_240) (by decide) (by decide)
  have N14 := Fr.app N11 M14
  have O_14 := O_13.keep KK14 all0
  have Ea13_14 := A13.keep KK14
  have Fa13_className_14 := Fa13_className.keep KK14 nin0
  have Fa13_name_14 := Fa13_name.keep KK14 nin0
  have Fa13_key_14 := Fa13_key.keep KK14 nin0
  have K14 := K13.trans KK14 all0
  refine own_go st14 ?_
  show own_Fin p.tables e below _ (T14.setTop (mkF m 243 #[.val (.int i1), .val (.int i2), .val (.int i3), .val (.int i4), .val (.int i5), .val (.int i6), .val (.int (own_l i1)), .val (.int (own_lo i1)), .val (.int (own_hi i1)), .val (.int (own_l i2)), .val (.int (own_lo i2)), .val (.int (own_hi i2)), .val (.int (own_lb i1 i3 i5)), .val (.int (own_b0 i1 i3 i5)), .val (.int (own_b1 i1 i3 i5)), .val (.int (own_kb i2 i4 i5)), .val (.int (own_m0 i2 i4 i5)), .val (.int (own_m1 i2 i4 i5)), .val (.int (own_n1 i6)), .val (.int (own_n2 i6)), .val (.int (own_lo i6)), .val (.int (own_hi i6)), .unset, .unset, .unset] [(.ref a14), (.ref a13), (.ref a13)]))
  refine own_go (fun _ k => XS.iload X14.here hx rfl (hb hby at_243) rfl k) ?_
  show own_Fin p.tables e below _ (T14.setTop (mkF m 245 #[.val (.int i1), .val (.int i2), .val (.int i3), .val (.int i4), .val (.int i5), .val (.int i6), .val (.int (own_l i1)), .val (.int (own_lo i1)), .val (.int (own_hi i1)), .val (.int (own_l i2)), .val (.int (own_lo i2)), .val (.int (own_hi i2)), .val (.int (own_lb i1 i3 i5)), .val (.int (own_b0 i1 i3 i5)), .val (.int (own_b1 i1 i3 i5)), .val (.int (own_kb i2 i4 i5)), .val (.int (own_m0 i2 i4 i5)), .val (.int (own_m1 i2 i4 i5)), .val (.int (own_n1 i6)), .val (.int (own_n2 i6)), .val (.int (own_lo i6)), .val (.int (own_hi i6)), .unset, .unset, .unset] [(.int (own_n1 i6)), (.ref a14), (.ref a13), (.ref a13)]))
  refine own_go (fun _ k => XS.iload X14.here hx rfl (hb hby at_245) rfl k) ?_
  show own_Fin p.tables e below _ (T14.setTop (mkF m 247 #[.val (.int i1), .val (.int i2), .val (.int i3), .val (.int i4), .val (.int i5), .val (.int i6), .val (.int (own_l i1)), .val (.int (own_lo i1)), .val (.int (own_hi i1)), .val (.int (own_l i2)), .val (.int (own_lo i2)), .val (.int (own_hi i2)), .val (.int (own_lb i1 i3 i5)), .val (.int (own_b0 i1 i3 i5)), .val (.int (own_b1 i1 i3 i5)), .val (.int (own_kb i2 i4 i5)), .val (.int (own_m0 i2 i4 i5)), .val (.int (own_m1 i2 i4 i5)), .val (.int (own_n1 i6)), .val (.int (own_n2 i6)), .val (.int (own_lo i6)), .val (.int (own_hi i6)), .unset, .unset, .unset] [(.int (own_lo i6)), (.int (own_n1 i6)), (.ref a14), (.ref a13), (.ref a13)]))
  refine own_go (fun _ k => XS.iload X14.here hx rfl (hb hby at_247) rfl k) ?_
  show own_Fin p.tables e below _ (T14.setTop (mkF m 249 #[.val (.int i1), .val (.int i2), .val (.int i3), .val (.int i4), .val (.int i5), .val (.int i6), .val (.int (own_l i1)), .val (.int (own_lo i1)), .val (.int (own_hi i1)), .val (.int (own_l i2)), .val (.int (own_lo i2)), .val (.int (own_hi i2)), .val (.int (own_lb i1 i3 i5)), .val (.int (own_b0 i1 i3 i5)), .val (.int (own_b1 i1 i3 i5)), .val (.int (own_kb i2 i4 i5)), .val (.int (own_m0 i2 i4 i5)), .val (.int (own_m1 i2 i4 i5)), .val (.int (own_n1 i6)), .val (.int (own_n2 i6)), .val (.int (own_lo i6)), .val (.int (own_hi i6)), .unset, .unset, .unset] [(.int (own_lo i6)), (.int (own_lo i6)), (.int (own_n1 i6)), (.ref a14), (.ref a13), (.ref a13)]))
  obtain ⟨_, T15, L15, X15, hZ15, hS15, ho15, ⟨a15, rfl, M15, KK15, q15, S15, LO15⟩, st15⟩ := own_callSW X14 hx hZ14 hS14 (Nat.le_refl _) ho14 (hw _ (List.mem_of_getElem? (i := 3) rfl)) (hw _ (List.mem_of_getElem? (i := 4) rfl)) (hw _ (List.mem_of_getElem? (i := 5) rfl)) (hw _ (List.mem_of_getElem? (i := 6) rfl)) (by decide) (W := 3) (rm2 l Z a0 hw [] (own_n1 i6) (own_lo i6) (own_lo i6) T14.heap n0 (Nat.le_trans Z0 K14.1) ic SC hz O_14 hheld hcw (own_lo_b i6) (own_lo_b i6)) (fun vm hv => own_LO.warm (LO14.mono (Nat.le_refl _)) hv) (by decide) (by decide) rfl (g := (mkF m 249 #[.val (.int i1), .val (.int i2), .val (.int i3), .val (.int i4), .val (.int i5), .val (.int i6), .val (.int (own_l i1)), .val (.int (own_lo i1)), .val (.int (own_hi i1)), .val (.int (own_l i2)), .val (.int (own_lo i2)), .val (.int (own_hi i2)), .val (.int (own_lb i1 i3 i5)), .val (.int (own_b0 i1 i3 i5)), .val (.int (own_b1 i1 i3 i5)), .val (.int (own_kb i2 i4 i5)), .val (.int (own_m0 i2 i4 i5)), .val (.int (own_m1 i2 i4 i5)), .val (.int (own_n1 i6)), .val (.int (own_n2 i6)), .val (.int (own_lo i6)), .val (.int (own_hi i6)), .unset, .unset, .unset] [(.int (own_lo i6)), (.int (own_lo i6)), (.int (own_n1 i6)), (.ref a14), (.ref a13), (.ref a13)])) rfl (by rw [hml]; rfl) (argsL := [(.int (own_n1 i6)), (.int (own_lo i6)), (.int (own_lo i6))]) (rest := [(.ref a14), (.ref a13), (.ref a13)]) rfl (lenOf pd3 rfl) rfl (by show 2 * 0 + _ ≤ _; exact Nat.le_of_eq rfl) (hb hby at_249) (by decide) (by decide)
  have N15 := Fr.app N14 M15
  have Stra14_15 := S14.keep0 KK15
  have O_15 := O_14.keep KK15 all0
  have Ea13_15 := Ea13_14.keep KK15
  have Fa13_className_15 := Fa13_className_14.keep KK15 nin0
  have Fa13_name_15 := Fa13_name_14.keep KK15 nin0
  have Fa13_key_15 := Fa13_key_14.keep KK15 nin0
  have K15 := K14.trans KK15 all0
  refine own_go st15 ?_
  show own_Fin p.tables e below _ (T15.setTop (mkF m 252 #[.val (.int i1), .val (.int i2), .val (.int i3), .val (.int i4), .val (.int i5), .val (.int i6), .val (.int (own_l i1)), .val (.int (own_lo i1)), .val (.int (own_hi i1)), .val (.int (own_l i2)), .val (.int (own_lo i2)), .val (.int (own_hi i2)), .val (.int (own_lb i1 i3 i5)), .val (.int (own_b0 i1 i3 i5)), .val (.int (own_b1 i1 i3 i5)), .val (.int (own_kb i2 i4 i5)), .val (.int (own_m0 i2 i4 i5)), .val (.int (own_m1 i2 i4 i5)), .val (.int (own_n1 i6)), .val (.int (own_n2 i6)), .val (.int (own_lo i6)), .val (.int (own_hi i6)), .unset, .unset, .unset] [(.ref a15), (.ref a14), (.ref a13), (.ref a13)]))
  refine own_go (fun _ k => XS.iload X15.here hx rfl (hb hby at_252) rfl k) ?_
  show own_Fin p.tables e below _ (T15.setTop (mkF m 254 #[.val (.int i1), .val (.int i2), .val (.int i3), .val (.int i4), .val (.int i5), .val (.int i6), .val (.int (own_l i1)), .val (.int (own_lo i1)), .val (.int (own_hi i1)), .val (.int (own_l i2)), .val (.int (own_lo i2)), .val (.int (own_hi i2)), .val (.int (own_lb i1 i3 i5)), .val (.int (own_b0 i1 i3 i5)), .val (.int (own_b1 i1 i3 i5)), .val (.int (own_kb i2 i4 i5)), .val (.int (own_m0 i2 i4 i5)), .val (.int (own_m1 i2 i4 i5)), .val (.int (own_n1 i6)), .val (.int (own_n2 i6)), .val (.int (own_lo i6)), .val (.int (own_hi i6)), .unset, .unset, .unset] [(.int (own_l i2)), (.ref a15), (.ref a14), (.ref a13), (.ref a13)]))
  refine own_go (fun _ k => XS.iload X15.here hx rfl (hb hby at_254) rfl k) ?_
  show own_Fin p.tables e below _ (T15.setTop (mkF m 256 #[.val (.int i1), .val (.int i2), .val (.int i3), .val (.int i4), .val (.int i5), .val (.int i6), .val (.int (own_l i1)), .val (.int (own_lo i1)), .val (.int (own_hi i1)), .val (.int (own_l i2)), .val (.int (own_lo i2)), .val (.int (own_hi i2)), .val (.int (own_lb i1 i3 i5)), .val (.int (own_b0 i1 i3 i5)), .val (.int (own_b1 i1 i3 i5)), .val (.int (own_kb i2 i4 i5)), .val (.int (own_m0 i2 i4 i5)), .val (.int (own_m1 i2 i4 i5)), .val (.int (own_n1 i6)), .val (.int (own_n2 i6)), .val (.int (own_lo i6)), .val (.int (own_hi i6)), .unset, .unset, .unset] [(.int (own_lo i2)), (.int (own_l i2)), (.ref a15), (.ref a14), (.ref a13), (.ref a13)]))
  refine own_go (fun _ k => XS.iload X15.here hx rfl (hb hby at_256) rfl k) ?_
  show own_Fin p.tables e below _ (T15.setTop (mkF m 258 #[.val (.int i1), .val (.int i2), .val (.int i3), .val (.int i4), .val (.int i5), .val (.int i6), .val (.int (own_l i1)), .val (.int (own_lo i1)), .val (.int (own_hi i1)), .val (.int (own_l i2)), .val (.int (own_lo i2)), .val (.int (own_hi i2)), .val (.int (own_lb i1 i3 i5)), .val (.int (own_b0 i1 i3 i5)), .val (.int (own_b1 i1 i3 i5)), .val (.int (own_kb i2 i4 i5)), .val (.int (own_m0 i2 i4 i5)), .val (.int (own_m1 i2 i4 i5)), .val (.int (own_n1 i6)), .val (.int (own_n2 i6)), .val (.int (own_lo i6)), .val (.int (own_hi i6)), .unset, .unset, .unset] [(.int (own_hi i2)), (.int (own_lo i2)), (.int (own_l i2)), (.ref a15), (.ref a14), (.ref a13), (.ref a13)]))
  obtain ⟨_, T16, L16, X16, hZ16, hS16, ho16, ⟨a16, rfl, M16, KK16, q16, S16, LO16⟩, st16⟩ := own_callSW X15 hx hZ15 hS15 (Nat.le_refl _) ho15 (hw _ (List.mem_of_getElem? (i := 3) rfl)) (hw _ (List.mem_of_getElem? (i := 4) rfl)) (hw _ (List.mem_of_getElem? (i := 5) rfl)) (hw _ (List.mem_of_getElem? (i := 6) rfl)) (by decide) (W := 4) (rm2 l Z a0 hw [] (own_l i2) (own_lo i2) (own_hi i2) T15.heap n0 (Nat.le_trans Z0 K15.1) ic SC hz O_15 hheld hcw (own_lo_b i2) (own_hi_b i2)) (fun vm hv => own_LO.warm (LO15.mono (Nat.le_refl _)) hv) (by decide) (by decide) rfl (g := (mkF m 258 #[.val (.int i1), .val (.int i2), .val (.int i3), .val (.int i4), .val (.int i5), .val (.int i6), .val (.int (own_l i1)), .val (.int (own_lo i1)), .val (.int (own_hi i1)), .val (.int (own_l i2)), .val (.int (own_lo i2)), .val (.int (own_hi i2)), .val (.int (own_lb i1 i3 i5)), .val (.int (own_b0 i1 i3 i5)), .val (.int (own_b1 i1 i3 i5)), .val (.int (own_kb i2 i4 i5)), .val (.int (own_m0 i2 i4 i5)), .val (.int (own_m1 i2 i4 i5)), .val (.int (own_n1 i6)), .val (.int (own_n2 i6)), .val (.int (own_lo i6)), .val (.int (own_hi i6)), .unset, .unset, .unset] [(.int (own_hi i2)), (.int (own_lo i2)), (.int (own_l i2)), (.ref a15), (.ref a14), (.ref a13), (.ref a13)])) rfl (by rw [hml]; rfl) (argsL := [(.int (own_l i2)), (.int (own_lo i2)), (.int (own_hi i2))]) (rest := [(.ref a15), (.ref a14), (.ref a13), (.ref a13)]) rfl (lenOf pd3 rfl) rfl (by show 2 * 0 + _ ≤ _; exact Nat.le_of_eq rfl) (hb hby at_258) (by decide) (by decide)
  have N16 := Fr.app N15 M16
  have Stra14_16 := Stra14_15.keep0 KK16
  have Stra15_16 := S15.keep0 KK16
  have O_16 := O_15.keep KK16 all0
  have Ea13_16 := Ea13_15.keep KK16
  have Fa13_className_16 := Fa13_className_15.keep KK16 nin0
  have Fa13_name_16 := Fa13_name_15.keep KK16 nin0
  have Fa13_key_16 := Fa13_key_15.keep KK16 nin0
  have K16 := K15.trans KK16 all0
  refine own_go st16 ?_
  show own_Fin p.tables e below _ (T16.setTop (mkF m 261 #[.val (.int i1), .val (.int i2), .val (.int i3), .val (.int i4), .val (.int i5), .val (.int i6), .val (.int (own_l i1)), .val (.int (own_lo i1)), .val (.int (own_hi i1)), .val (.int (own_l i2)), .val (.int (own_lo i2)), .val (.int (own_hi i2)), .val (.int (own_lb i1 i3 i5)), .val (.int (own_b0 i1 i3 i5)), .val (.int (own_b1 i1 i3 i5)), .val (.int (own_kb i2 i4 i5)), .val (.int (own_m0 i2 i4 i5)), .val (.int (own_m1 i2 i4 i5)), .val (.int (own_n1 i6)), .val (.int (own_n2 i6)), .val (.int (own_lo i6)), .val (.int (own_hi i6)), .unset, .unset, .unset] [(.ref a16), (.ref a15), (.ref a14), (.ref a13), (.ref a13)]))
  obtain ⟨_, T17, L17, X17, ⟨rfl, M17, KK17, -, G17_className, G17_name, G17_key⟩, st17⟩ := own_callC X16 hx hZ16 ho16 rfl (hw _ (List.mem_of_getElem? (i := 29) rfl)) (hw _ (List.mem_of_getElem? (i := 30) rfl)) (hw _ (List.mem_of_getElem? (i := 2) rfl)) (hw _ (List.mem_of_getElem? (i := 31) rfl)) (by decide) (W := 1) (rm5 l Z a0 hw [] a13 a14 a15 a16 .null .null .null T16.heap n0 (Nat.le_trans Z0 K16.1) Ea13_16 Fa13_className_16 Fa13_name_16 Fa13_key_16 z13 ) (by decide) (by decide) rfl (g := (mkF m 261 #[.val (.int i1), .val (.int i2), .val (.int i3), .val (.int i4), .val (.int i5), .val (.int i6), .val (.int (own_l i1)), .val (.int (own_lo i1)), .val (.int (own_hi i1)), .val (.int (own_l i2)), .val (.int (own_lo i2)), .val (.int (own_hi i2)), .val (.int (own_lb i1 i3 i5)), .val (.int (own_b0 i1 i3 i5)), .val (.int (own_b1 i1 i3 i5)), .val (.int (own_kb i2 i4 i5)), .val (.int (own_m0 i2 i4 i5)), .val (.int (own_m1 i2 i4 i5)), .val (.int (own_n1 i6)), .val (.int (own_n2 i6)), .val (.int (own_lo i6)), .val (.int (own_hi i6)), .unset, .unset, .unset] [(.ref a16), (.ref a15), (.ref a14), (.ref a13), (.ref a13)])) rfl (by rw [hml]; rfl) (argsL := [(.ref a14), (.ref a15), (.ref a16)]) (rest := [(.ref a13)]) rfl (lenOf pd6 rfl) rfl (by show 2 * 0 + _ ≤ _; exact Nat.le_of_eq rfl) (hb hby at_261) (by decide) (by decide)
  have N17 := Fr.app N16 M17
  have Stra14_17 := Stra14_16.keepC KK17 Ea13_16 (by decide) (hw _ (List.mem_of_getElem? (i := 1) rfl))
  have Stra15_17 := Stra15_16.keepC KK17 Ea13_16 (by decide) (hw _ (List.mem_of_getElem? (i := 1) rfl))
  have Stra16_17 := S16.keepC KK17 Ea13_16 (by decide) (hw _ (List.mem_of_getElem? (i := 1) rfl))
  have LO_17 := LO16.keepC KK17 Ea13_16 (by decide) (hw _ (List.mem_of_getElem? (i := 1) rfl))
  have O_17 := O_16.keep KK17 (allS z13 all0)
  have Ea13_17 := Ea13_16.keep KK17
  have K17 := K16.trans KK17 (allS (Or.inr q13) all0)
  refine own_go st17 ?_
  show own_Fin p.tables e below _ (T17.setTop (mkF m 264 #[.val (.int i1), .val (.int i2), .val (.int i3), .val (.int i4), .val (.int i5), .val (.int i6), .val (.int (own_l i1)), .val (.int (own_lo i1)), .val (.int (own_hi i1)), .val (.int (own_l i2)), .val (.int (own_lo i2)), .val (.int (own_hi i2)), .val (.int (own_lb i1 i3 i5)), .val (.int (own_b0 i1 i3 i5)), .val (.int (own_b1 i1 i3 i5)), .val (.int (own_kb i2 i4 i5)), .val (.int (own_m0 i2 i4 i5)), .val (.int (own_m1 i2 i4 i5)), .val (.int (own_n1 i6)), .val (.int (own_n2 i6)), .val (.int (own_lo i6)), .val (.int (own_hi i6)), .unset, .unset, .unset] [(.ref a13)]))
  refine own_go (fun _ k => XS.astore X17.here hx rfl (hb hby at_264) rfl rfl (l' := #[.val (.int i1), .val (.int i2), .val (.int i3), .val (.int i4), .val (.int i5), .val (.int i6), .val (.int (own_l i1)), .val (.int (own_lo i1)), .val (.int (own_hi i1)), .val (.int (own_l i2)), .val (.int (own_lo i2)), .val (.int (own_hi i2)), .val (.int (own_lb i1 i3 i5)), .val (.int (own_b0 i1 i3 i5)), .val (.int (own_b1 i1 i3 i5)), .val (.int (own_kb i2 i4 i5)), .val (.int (own_m0 i2 i4 i5)), .val (.int (own_m1 i2 i4 i5)), .val (.int (own_n1 i6)), .val (.int (own_n2 i6)), .val (.int (own_lo i6)), .val (.int (own_hi i6)), .val (.ref a13), .unset, .unset]) rfl k) ?_
  show own_Fin p.tables e below _ (T17.setTop (mkF m 266 #[.val (.int i1), .val (.int i2), .val (.int i3), .val (.int i4), .val (.int i5), .val (.int i6), .val (.int (own_l i1)), .val (.int (own_lo i1)), .val (.int (own_hi i1)), .val (.int (own_l i2)), .val (.int (own_lo i2)), .val (.int (own_hi i2)), .val (.int (own_lb i1 i3 i5)), .val (.int (own_b0 i1 i3 i5)), .val (.int (own_b1 i1 i3 i5)), .val (.int (own_kb i2 i4 i5)), .val (.int (own_m0 i2 i4 i5)), .val (.int (own_m1 i2 i4 i5)), .val (.int (own_n1 i6)), .val (.int (own_n2 i6)), .val (.int (own_lo i6)), .val (.int (own_hi i6)), .val (.ref a13), .unset, .unset] []))
  obtain ⟨T18, h18, X18, e18, E18, A18, D18, -, st18⟩ := newO X17 hx hZ16 ho16 (hw _ (List.mem_of_getElem? (i := 0) rfl)) (hw _ (List.mem_of_getElem? (i := 1) rfl)) (hw _ (List.mem_of_getElem? (i := 2) rfl)) rfl (g := (mkF m 266 #[.val (.int i1), .val (.int i2), .val (.int i3), .val (.int i4), .val (.int i5), .val (.int i6), .val (.int (own_l i1)), .val (.int (own_lo i1)), .val (.int (own_hi i1)), .val (.int (own_l i2)), .val (.int (own_lo i2)), .val (.int (own_hi i2)), .val (.int (own_lb i1 i3 i5)), .val (.int (own_b0 i1 i3 i5)), .val (.int (own_b1 i1 i3 i5)), .val (.int (own_kb i2 i4 i5)), .val (.int (own_m0 i2 i4 i5)), .val (.int (own_m1 i2 i4 i5)), .val (.int (own_n1 i6)), .val (.int (own_n2 i6)), .val (.int (own_lo i6)), .val (.int (own_hi i6)), .val (.ref a13), .unset, .unset] [])) rfl (hb hby at_266) (by decide) (by decide)
  obtain ⟨a18, g18⟩ : ∃ z, z = T17.heap.size := ⟨_, rfl⟩
  rw [← g18] at A18 D18 st18
  have q18 : h0.size ≤ a18 := Nat.le_trans K17.1 (Nat.le_of_eq g18.symm)
  have z18 : n0 ≤ a18 := Nat.le_trans Z0 q18
  have ne_a13_a18 : a13 ≠ a18 := fun q => absurd (q ▸ Ea13_17.lt) (by rw [g18]; exact Nat.lt_irrefl _)
  have O_18 := O_17.ext E18
  have Ea13_18 := Ea13_17.ext E18
  have Stra14_18 := Stra14_17.ext E18
  have Stra15_18 := Stra15_17.ext E18
  have Stra16_18 := Stra16_17.ext E18
  have LO_18 := LO_17.ext E18
  have Fa13_className_18 := G17_className.ext E18
  have Fa13_name_18 := G17_name.ext E18
  have Fa13_key_18 := G17_key.ext E18
  have K18 := K17.ext E18
  have Fa18_className : Fld Z h18 a18 "com/example/grantline/grantline/eval/ComparablePrincipal" "className" "Ljava/lang/String;" .null := D18 (Or.inr (hw _ (List.mem_of_getElem? (i := 39) rfl))) (ty := (.object "java/lang/String")) (by decide)
  have Fa18_name : Fld Z h18 a18 "com/example/grantline/grantline/eval/ComparablePrincipal" "name" "Ljava/lang/String;" .null := D18 (Or.inr (hw _ (List.mem_of_getElem? (i := 41) rfl))) (ty := (.object "java/lang/String")) (by decide)
  have Fa18_key : Fld Z h18 a18 "com/example/grantline/grantline/eval/ComparablePrincipal" "key" "Ljava/lang/String;" .null := D18 (Or.inr (hw _ (List.mem_of_getElem? (i := 43) rfl))) (ty := (.object "java/lang/String")) (by decide)
  refine own_go st18 ?_
  show own_Fin p.tables e below _ (T18.setTop (mkF m 269 #[.val (.int i1), .val (.int i2), .val (.int i3), .val (.int i4), .val (.int i5), .val (.int i6), .val (.int (own_l i1)), .val (.int (own_lo i1)), .val (.int (own_hi i1)), .val (.int (own_l i2)), .val (.int (own_lo i2)), .val (.int (own_hi i2)), .val (.int (own_lb i1 i3 i5)), .val (.int (own_b0 i1 i3 i5)), .val (.int (own_b1 i1 i3 i5)), .val (.int (own_kb i2 i4 i5)), .val (.int (own_m0 i2 i4 i5)), .val (.int (own_m1 i2 i4 i5)), .val (.int (own_n1 i6)), .val (.int (own_n2 i6)), .val (.int (own_lo i6)), .val (.int (own_hi i6)), .val (.ref a13), .unset, .unset] [(.ref a18)]))
  refine own_go (fun _ k => XS.dup X18.here hx rfl (hb hby at_269) rfl rfl k) ?_
  show own_Fin p.tables e below _ (T18.setTop (mkF m 270 #[.val (.int i1), .val (.int i2), .val (.int i3), .val (.int i4), .val (.int i5), .val (.int i6), .val (.int (own_l i1)), .val (.int (own_lo i1)), .val (.int (own_hi i1)), .val (.int (own_l i2)), .val (.int (own_lo i2)), .val (.int (own_hi i2)), .val (.int (own_lb i1 i3 i5)), .val (.int (own_b0 i1 i3 i5)), .val (.int (own_b1 i1 i3 i5)), .val (.int (own_kb i2 i4 i5)), .val (.int (own_m0 i2 i4 i5)), .val (.int (own_m1 i2 i4 i5)), .val (.int (own_n1 i6)), .val (.int (own_n2 i6)), .val (.int (own_lo i6)), .val (.int (own_hi i6)), .val (.ref a13), .unset, .unset] [(.ref a18), (.ref a18)]))
  refine own_go (fun _ k => XS.iload X18.here hx rfl (hb hby at_270) rfl k) ?_
  show own_Fin p.tables e below _ (T18.setTop (mkF m 272 #[.val (.int i1), .val (.int i2), .val (.int i3), .val (.int i4), .val (.int i5), .val (.int i6), .val (.int (own_l i1)), .val (.int (own_lo i1)), .val (.int (own_hi i1)), .val (.int (own_l i2)), .val (.int (own_lo i2)), .val (.int (own_hi i2)), .val (.int (own_lb i1 i3 i5)), .val (.int (own_b0 i1 i3 i5)), .val (.int (own_b1 i1 i3 i5)), .val (.int (own_kb i2 i4 i5)), .val (.int (own_m0 i2 i4 i5)), .val (.int (own_m1 i2 i4 i5)), .val (.int (own_n1 i6)), .val (.int (own_n2 i6)), .val (.int (own_lo i6)), .val (.int (own_hi i6)), .val (.ref a13), .unset, .unset] [(.int (own_lb i1 i3 i5)), (.ref a18), (.ref a18)]))
  refine own_go (fun _ k => XS.iload X18.here hx rfl (hb hby at_272) rfl k) ?_
  show own_Fin p.tables e below _ (T18.setTop (mkF m 274 #[.val (.int i1), .val (.int i2), .val (.int i3), .val (.int i4), .val (.int i5), .val (.int i6), .val (.int (own_l i1)), .val (.int (own_lo i1)), .val (.int (own_hi i1)), .val (.int (own_l i2)), .val (.int (own_lo i2)), .val (.int (own_hi i2)), .val (.int (own_lb i1 i3 i5)), .val (.int (own_b0 i1 i3 i5)), .val (.int (own_b1 i1 i3 i5)), .val (.int (own_kb i2 i4 i5)), .val (.int (own_m0 i2 i4 i5)), .val (.int (own_m1 i2 i4 i5)), .val (.int (own_n1 i6)), .val (.int (own_n2 i6)), .val (.int (own_lo i6)), .val (.int (own_hi i6)), .val (.ref a13), .unset, .unset] [(.int (own_b0 i1 i3 i5)), (.int (own_lb i1 i3 i5)), (.ref a18), (.ref a18)]))
  refine own_go (fun _ k => XS.iload X18.here hx rfl (hb hby at_274) rfl k) ?_
  show own_Fin p.tables e below _ (T18.setTop (mkF m 276 #[.val (.int i1), .val (.int i2), .val (.int i3), .val (.int i4), .val (.int i5), .val (.int i6), .val (.int (own_l i1)), .val (.int (own_lo i1)), .val (.int (own_hi i1)), .val (.int (own_l i2)), .val (.int (own_lo i2)), .val (.int (own_hi i2)), .val (.int (own_lb i1 i3 i5)), .val (.int (own_b0 i1 i3 i5)), .val (.int (own_b1 i1 i3 i5)), .val (.int (own_kb i2 i4 i5)), .val (.int (own_m0 i2 i4 i5)), .val (.int (own_m1 i2 i4 i5)), .val (.int (own_n1 i6)), .val (.int (own_n2 i6)), .val (.int (own_lo i6)), .val (.int (own_hi i6)), .val (.ref a13), .unset, .unset] [(.int (own_b1 i1 i3 i5)), (.int (own_b0 i1 i3 i5)), (.int (own_lb i1 i3 i5)), (.ref a18), (.ref a18)]))
  obtain ⟨_, T19, L19, X19, hZ19, hS19, ho19, ⟨a19, rfl, M19, KK19, q19, S19, LO19⟩, st19⟩ := own_callSW X18 hx hZ16 hS16 (by rw [e18]; exact (Nat.le_trans (Nat.le_trans (Nat.le_refl _) KK17.1) E18.1)) ho16 (hw _ (List.mem_of_getElem? (i := 3) rfl)) (hw _ (List.mem_of_getElem? (i := 4) rfl)) (hw _ (List.mem_of_getElem? (i := 5) rfl)) (hw _ (List.mem_of_getElem? (i := 6) rfl)) (by decide) (W := 2) (rm2 l Z a0 hw [] (own_lb i1 i3 i5) (own_b0 i1 i3 i5) (own_b1 i1 i3 i5) h18 n0 (Nat.le_trans Z0 K18.1) ic SC hz O_18 hheld hcw (own_b0_b i1 i3 i5) (own_b1_b i1 i3 i5)) (fun vm hv => own_LO.warm (LO_18.mono (Nat.le_trans (Nat.le_trans (Nat.le_refl _) KK17.1) E18.1)) hv) (by decide) (by decide) e18 (g := (mkF m 276 #[.val (.int i1), .val (.int i2), .val (.int i3), .val (.int i4), .val (.int i5), .val (.int i6), .val (.int (own_l i1)), .val (.int (own_lo i1)), .val (.int (own_hi i1)), .val (.int (own_l i2)), .val (.int (own_lo i2)), .val (.int (own_hi i2)), .val (.int (own_lb i1 i3 i5)), .val (.int (own_b0 i1 i3 i5)), .val (.int (own_b1 i1 i3 i5)), .val (.int (own_kb i2 i4 i5)), .val (.int (own_m0 i2 i4 i5)), .val (.int (own_m1 i2 i4 i5)), .val (.int (own_n1 i6)), .val (.int (own_n2 i6)), .val (.int (own_lo i6)), .val (.int (own_hi i6)), .val (.ref a13), .unset, .unset] [(.int (own_b1 i1 i3 i5)), (.int (own_b0 i1 i3 i5)), (.int (own_lb i1 i3 i5)), (.ref a18), (.ref a18)])) rfl (by rw [hml]; rfl) (argsL := [(.int (own_lb i1 i3 i5)), (.int (own_b0 i1 i3 i5)), (.int (own_b1 i1 i3 i5))]) (rest := [(.ref a18), (.ref a18)]) rfl (lenOf pd3 rfl) rfl (by show 2 * 0 + _ ≤ _; exact Nat.le_of_eq rfl) (hb hby at_276) (by decide) (by decide)
  have N19 := Fr.app N17 M19
  have Stra14_19 := Stra14_18.keep0 KK19
  have Stra15_19 := Stra15_18.keep0 KK19
  have Stra16_19 := Stra16_18.keep0 KK19
  have O_19 := O_18.keep KK19 all0
  have Ea13_19 := Ea13_18.keep KK19
  have Fa13_className_19 := Fa13_className_18.keep KK19 nin0
  have Fa13_name_19 := Fa13_name_18.keep KK19 nin0
  have Fa13_key_19 := Fa13_key_18.keep KK19 nin0
  have Ea18_19 := A18.keep KK19
  have Fa18_className_19 := Fa18_className.keep KK19 nin0
  have Fa18_name_19 := Fa18_name.keep KK19 nin0
  have Fa18_key_19 := Fa18_key.keep KK19 nin0
  have K19 := K18.trans KK19 all0
  refine own_go st19 ?_
  show own_Fin p.tables e below _ (T19.setTop (mkF m 279 #[.val (.int i1), .val (.int i2), .val (.int i3), .val (.int i4), .val (.int i5), .val (.int i6), .val (.int (own_l i1)), .val (.int (own_lo i1)), .val (.int (own_hi i1)), .val (.int (own_l i2)), .val (.int (own_lo i2)), .val (.int (own_hi i2)), .val (.int (own_lb i1 i3 i5)), .val (.int (own_b0 i1 i3 i5)), .val (.int (own_b1 i1 i3 i5)), .val (.int (own_kb i2 i4 i5)), .val (.int (own_m0 i2 i4 i5)), .val (.int (own_m1 i2 i4 i5)), .val (.int (own_n1 i6)), .val (.int (own_n2 i6)), .val (.int (own_lo i6)), .val (.int (own_hi i6)), .val (.ref a13), .unset, .unset] [(.ref a19), (.ref a18), (.ref a18)]))
  refine own_go (fun _ k => XS.iload X19.here hx rfl (hb hby at_279) rfl k) ?_
  show own_Fin p.tables e below _ (T19.setTop (mkF m 281 #[.val (.int i1), .val (.int i2), .val (.int i3), .val (.int i4), .val (.int i5), .val (.int i6), .val (.int (own_l i1)), .val (.int (own_lo i1)), .val (.int (own_hi i1)), .val (.int (own_l i2)), .val (.int (own_lo i2)), .val (.int (own_hi i2)), .val (.int (own_lb i1 i3 i5)), .val (.int (own_b0 i1 i3 i5)), .val (.int (own_b1 i1 i3 i5)), .val (.int (own_kb i2 i4 i5)), .val (.int (own_m0 i2 i4 i5)), .val (.int (own_m1 i2 i4 i5)), .val (.int (own_n1 i6)), .val (.int (own_n2 i6)), .val (.int (own_lo i6)), .val (.int (own_hi i6)), .val (.ref a13), .unset, .unset] [(.int (own_n2 i6)), (.ref a19), (.ref a18), (.ref a18)]))
  refine own_go (fun _ k => XS.iload X19.here hx rfl (hb hby at_281) rfl k) ?_
  show own_Fin p.tables e below _ (T19.setTop (mkF m 283 #[.val (.int i1), .val (.int i2), .val (.int i3), .val (.int i4), .val (.int i5), .val (.int i6), .val (.int (own_l i1)), .val (.int (own_lo i1)), .val (.int (own_hi i1)), .val (.int (own_l i2)), .val (.int (own_lo i2)), .val (.int (own_hi i2)), .val (.int (own_lb i1 i3 i5)), .val (.int (own_b0 i1 i3 i5)), .val (.int (own_b1 i1 i3 i5)), .val (.int (own_kb i2 i4 i5)), .val (.int (own_m0 i2 i4 i5)), .val (.int (own_m1 i2 i4 i5)), .val (.int (own_n1 i6)), .val (.int (own_n2 i6)), .val (.int (own_lo i6)), .val (.int (own_hi i6)), .val (.ref a13), .unset, .unset] [(.int (own_hi i6)), (.int (own_n2 i6)), (.ref a19), (.ref a18), (.ref a18)]))
  refine own_go (fun _ k => XS.iload X19.here hx rfl (hb hby at_283) rfl k) ?_
  show own_Fin p.tables e below _ (T19.setTop (mkF m 285 #[.val (.int i1), .val (.int i2), .val (.int i3), .val (.int i4), .val (.int i5), .val (.int i6), .val (.int (own_l i1)), .val (.int (own_lo i1)), .val (.int (own_hi i1)), .val (.int (own_l i2)), .val (.int (own_lo i2)), .val (.int (own_hi i2)), .val (.int (own_lb i1 i3 i5)), .val (.int (own_b0 i1 i3 i5)), .val (.int (own_b1 i1 i3 i5)), .val (.int (own_kb i2 i4 i5)), .val (.int (own_m0 i2 i4 i5)), .val (.int (own_m1 i2 i4 i5)), .val (.int (own_n1 i6)), .val (.int (own_n2 i6)), .val (.int (own_lo i6)), .val (.int (own_hi i6)), .val (.ref a13), .unset, .unset] [(.int (own_hi i6)), (.int (own_hi i6)), (.int (own_n2 i6)), (.ref a19), (.ref a18), (.ref a18)]))
  obtain ⟨_, T20, L20, X20, hZ20, hS20, ho20, ⟨a20, rfl, M20, KK20, q20, S20, LO20⟩, st20⟩ := own_callSW X19 hx hZ19 hS19 (Nat.le_refl _) ho19 (hw _ (List.mem_of_getElem? (i := 3) rfl)) (hw _ (List.mem_of_getElem? (i := 4) rfl)) (hw _ (List.mem_of_getElem? (i := 5) rfl)) (hw _ (List.mem_of_getElem? (i := 6) rfl)) (by decide) (W := 3) (rm2 l Z a0 hw [] (own_n2 i6) (own_hi i6) (own_hi i6) T19.heap n0 (Nat.le_trans Z0 K19.1) ic SC hz O_19 hheld hcw (own_hi_b i6) (own_hi_b i6)) (fun vm hv => own_LO.warm (LO19.mono (Nat.le_refl _)) hv) (by decide) (by decide) rfl (g := (mkF m 285 #[.val (.int i1), .val (.int i2), .val (.int i3), .val (.int i4), .val (.int i5), .val (.int i6), .val (.int (own_l i1)), .val (.int (own_lo i1)), .val (.int (own_hi i1)), .val (.int (own_l i2)), .val (.int (own_lo i2)), .val (.int (own_hi i2)), .val (.int (own_lb i1 i3 i5)), .val (.int (own_b0 i1 i3 i5)), .val (.int (own_b1 i1 i3 i5)), .val (.int (own_kb i2 i4 i5)), .val (.int (own_m0 i2 i4 i5)), .val (.int (own_m1 i2 i4 i5)), .val (.int (own_n1 i6)), .val (.int (own_n2 i6)), .val (.int (own_lo i6)), .val (.int (own_hi i6)), .val (.ref a13), .unset, .unset] [(.int (own_hi i6)), (.int (own_hi i6)), (.int (own_n2 i6)), (.ref a19), (.ref a18), (.ref a18)])) rfl (by rw [hml]; rfl) (argsL := [(.int (own_n2 i6)), (.int (own_hi i6)), (.int (own_hi i6))]) (rest := [(.ref a19), (.ref a18), (.ref a18)]) rfl (lenOf pd3 rfl) rfl (by show 2 * 0 + _ ≤ _; exact Nat.le_of_eq rfl) (hb hby at_285) (by decide) (by decide)
  have N20 := Fr.app N19 M20
  have Stra14_20 := Stra14_19.keep0 KK20
  have Stra15_20 := Stra15_19.keep0 KK20
  have Stra16_20 := Stra16_19.keep0 KK20
  have Stra19_20 := S19.keep0 KK20
  have O_20 := O_19.keep KK20 all0
  have Ea13_20 := Ea13_19.keep KK20
  have Fa13_className_20 := Fa13_className_19.keep KK20 nin0
  have Fa13_name_20 := Fa13_name_19.keep KK20 nin0
  have Fa13_key_20 := Fa13_key_19.keep KK20 nin0
  have Ea18_20 := Ea18_19.keep KK20
  have Fa18_className_20 := Fa18_className_19.keep KK20 nin0
  have Fa18_name_20 := Fa18_name_19.keep KK20 nin0
  have Fa18_key_20 := Fa18_key_19.keep KK20 nin0
  have K20 := K19.trans KK20 all0
  refine own_go st20 ?_
  show own_Fin p.tables e below _ (T20.setTop (mkF m 288 #[.val (.int i1), .val (.int i2), .val (.int i3), .val (.int i4), .val (.int i5), .val (.int i6), .val (.int (own_l i1)), .val (.int (own_lo i1)), .val (.int (own_hi i1)), .val (.int (own_l i2)), .val (.int (own_lo i2)), .val (.int (own_hi i2)), .val (.int (own_lb i1 i3 i5)), .val (.int (own_b0 i1 i3 i5)), .val (.int (own_b1 i1 i3 i5)), .val (.int (own_kb i2 i4 i5)), .val (.int (own_m0 i2 i4 i5)), .val (.int (own_m1 i2 i4 i5)), .val (.int (own_n1 i6)), .val (.int (own_n2 i6)), .val (.int (own_lo i6)), .val (.int (own_hi i6)), .val (.ref a13), .unset, .unset] [(.ref a20), (.ref a19), (.ref a18), (.ref a18)]))
  refine own_go (fun _ k => XS.iload X20.here hx rfl (hb hby at_288) rfl k) ?_
  show own_Fin p.tables e below _ (T20.setTop (mkF m 290 #[.val (.int i1), .val (.int i2), .val (.int i3), .val (.int i4), .val (.int i5), .val (.int i6), .val (.int (own_l i1)), .val (.int (own_lo i1)), .val (.int (own_hi i1)), .val (.int (own_l i2)), .val (.int (own_lo i2)), .val (.int (own_hi i2)), .val (.int (own_lb i1 i3 i5)), .val (.int (own_b0 i1 i3 i5)), .val (.int (own_b1 i1 i3 i5)), .val (.int (own_kb i2 i4 i5)), .val (.int (own_m0 i2 i4 i5)), .val (.int (own_m1 i2 i4 i5)), .val (.int (own_n1 i6)), .val (.int (own_n2 i6)), .val (.int (own_lo i6)), .val (.int (own_hi i6)), .val (.ref a13), .unset, .unset] [(.int (own_kb i2 i4 i5)), (.ref a20), (.ref a19), (.ref a18), (.ref a18)]))
  refine own_go (fun _ k => XS.iload X20.here hx rfl (hb hby at_290) rfl k) ?_
  show own_Fin p.tables e below _ (T20.setTop (mkF m 292 #[.val (.int i1), .val (.int i2), .val (.int i3), .val (.int i4), .val (.int i5), .val (.int i6), .val (.int (own_l i1)), .val (.int (own_lo i1)), .val (.int (own_hi i1)), .val (.int (own_l i2)), .val (.int (own_lo i2)), .val (.int (own_hi i2)), .val (.int (own_lb i1 i3 i5)), .val (.int (own_b0 i1 i3 i5)), .val (.int (own_b1 i1 i3 i5)), .val (.int (own_kb i2 i4 i5)), .val (.int (own_m0 i2 i4 i5)), .val (.int (own_m1 i2 i4 i5)), .val (.int (own_n1 i6)), .val (.int (own_n2 i6)), .val (.int (own_lo i6)), .val (.int (own_hi i6)), .val (.ref a13), .unset, .unset] [(.int (own_m0 i2 i4 i5)), (.int (own_kb i2 i4 i5)), (.ref a20), (.ref a19), (.ref a18), (.ref a18)]))
  refine own_go (fun _ k => XS.iload X20.here hx rfl (hb hby at_292) rfl k) ?_
  show own_Fin p.tables e below _ (T20.setTop (mkF m 294 #[.val (.int i1), .val (.int i2), .val (.int i3), .val (.int i4), .val (.int i5), .val (.int i6), .val (.int (own_l i1)), .val (.int (own_lo i1)), .val (.int (own_hi i1)), .val (.int (own_l i2)), .val (.int (own_lo i2)), .val (.int (own_hi i2)), .val (.int (own_lb i1 i3 i5)), .val (.int (own_b0 i1 i3 i5)), .val (.int (own_b1 i1 i3 i5)), .val (.int (own_kb i2 i4 i5)), .val (.int (own_m0 i2 i4 i5)), .val (.int (own_m1 i2 i4 i5)), .val (.int (own_n1 i6)), .val (.int (own_n2 i6)), .val (.int (own_lo i6)), .val (.int (own_hi i6)), .val (.ref a13), .unset, .unset] [(.int (own_m1 i2 i4 i5)), (.int (own_m0 i2 i4 i5)), (.int (own_kb i2 i4 i5)), (.ref a20), (.ref a19), (.ref a18), (.ref a18)]))
  obtain ⟨_, T21, L21, X21, hZ21, hS21, ho21, ⟨a21, rfl, M21, KK21, q21, S21, LO21⟩, st21⟩ := own_callSW X20 hx hZ20 hS20 (Nat.le_refl _) ho20 (hw _ (List.mem_of_getElem? (i := 3) rfl)) (hw _ (List.mem_of_getElem? (i := 4) rfl)) (hw _ (List.mem_of_getElem? (i := 5) rfl)) (hw _ (List.mem_of_getElem? (i := 6) rfl)) (by decide) (W := 4) (rm2 l Z a0 hw [] (own_kb i2 i4 i5) (own_m0 i2 i4 i5) (own_m1 i2 i4 i5) T20.heap n0 (Nat.le_trans Z0 K20.1) ic SC hz O_20 hheld hcw (own_m0_b i2 i4 i5) (own_m1_b i2 i4 i5)) (fun vm hv => own_LO.warm (LO20.mono (Nat.le_refl _)) hv) (by decide) (by decide) rfl (g := (mkF m 294 #[.val (.int i1), .val (.int i2), .val (.int i3), .val (.int i4), .val (.int i5), .val (.int i6), .val (.int (own_l i1)), .val (.int (own_lo i1)), .val (.int (own_hi i1)), .val (.int (own_l i2)), .val (.int (own_lo i2)), .val (.int (own_hi i2)), .val (.int (own_lb i1 i3 i5)), .val (.int (own_b0 i1 i3 i5)), .val (.int (own_b1 i1 i3 i5)), .val (.int (own_kb i2 i4 i5)), .val (.int (own_m0 i2 i4 i5)), .val (.int (own_m1 i2 i4 i5)), .val (.int (own_n1 i6)), .val (.int (own_n2 i6)), .val (.int (own_lo i6)), .val (.int (own_hi i6)), .val (.ref a13), .unset, .unset] [(.int (own_m1 i2 i4 i5)), (.int (own_m0 i2 i4 i5)), (.int (own_kb i2 i4 i5)), (.ref a20), (.ref a19), (.ref a18), (.ref a18)])) rfl (by rw [hml]; rfl) (argsL := [(.int (own_kb i2 i4 i5)), (.int (own_m0 i2 i4 i5)), (.int (own_m1 i2 i4 i5))]) (rest := [(.ref a20), (.ref a19), (.ref a18), (.ref a18)]) rfl (lenOf pd3 rfl) rfl (by show 2 * 0 + _ ≤ _; exact Nat.le_of_eq rfl) (hb hby at_294) (by decide) (by decide)
  have N21 := Fr.app N20 M21
  have Stra14_21 := Stra14_20.keep0 KK21
  have Stra15_21 := Stra15_20.keep0 KK21
  have Stra16_21 := Stra16_20.keep0 KK21
  have Stra19_21 := Stra19_20.keep0 KK21
  have Stra20_21 := S20.keep0 KK21
  have O_21 := O_20.keep KK21 all0
  have Ea13_21 := Ea13_20.keep KK21
  have Fa13_className_21 := Fa13_className_20.keep KK21 nin0
  have Fa13_name_21 := Fa13_name_20.keep KK21 nin0
  have Fa13_key_21 := Fa13_key_20.keep KK21 nin0
  have Ea18_21 := Ea18_20.keep KK21
  have Fa18_className_21 := Fa18_className_20.keep KK21 nin0
  have Fa18_name_21 := Fa18_name_20.keep KK21 nin0
  have Fa18_key_21 := Fa18_key_20.keep KK21 nin0
  have K21 := K20.trans KK21 all0
  refine own_go st21 ?_
  show own_Fin p.tables e below _ (T21.setTop (mkF m 297 #[.val (.int i1), .val (.int i2), .val (.int i3), .val (.int i4), .val (.int i5), .val (.int i6), .val (.int (own_l i1)), .val (.int (own_lo i1)), .val (.int (own_hi i1)), .val (.int (own_l i2)), .val (.int (own_lo i2)), .val (.int (own_hi i2)), .val (.int (own_lb i1 i3 i5)), .val (.int (own_b0 i1 i3 i5)), .val (.int (own_b1 i1 i3 i5)), .val (.int (own_kb i2 i4 i5)), .val (.int (own_m0 i2 i4 i5)), .val (.int (own_m1 i2 i4 i5)), .val (.int (own_n1 i6)), .val (.int (own_n2 i6)), .val (.int (own_lo i6)), .val (.int (own_hi i6)), .val (.ref a13), .unset, .unset] [(.ref a21), (.ref a20), (.ref a19), (.ref a18), (.ref a18)]))
  obtain ⟨_, T22, L22, X22, ⟨rfl, M22, KK22, -, G22_className, G22_name, G22_key⟩, st22⟩ := own_callC X21 hx hZ21 ho21 rfl (hw _ (List.mem_of_getElem? (i := 29) rfl)) (hw _ (List.mem_of_getElem? (i := 30) rfl)) (hw _ (List.mem_of_getElem? (i := 2) rfl)) (hw _ (List.mem_of_getElem? (i := 31) rfl)) (by decide) (W := 1) (rm5 l Z a0 hw [] a18 a19 a20 a21 .null .null .null T21.heap n0 (Nat.le_trans Z0 K21.1) Ea18_21 Fa18_className_21 Fa18_name_21 Fa18_key_21 z18 ) (by decide) (by decide) rfl (g := (mkF m 297 #[.val (.int i1), .val (.int i2), .val (.int i3), .val (.int i4), .val (.int i5), .val (.int i6), .val (.int (own_l i1)), .val (.int (own_lo i1)), .val (.int (own_hi i1)), .val (.int (own_l i2)), .val (.int (own_lo i2)), .val (.int (own_hi i2)), .val (.int (own_lb i1 i3 i5)), .val (.int (own_b0 i1 i3 i5)), .val (.int (own_b1 i1 i3 i5)), .val (.int (own_kb i2 i4 i5)), .val (.int (own_m0 i2 i4 i5)), .val (.int (own_m1 i2 i4 i5)), .val (.int (own_n1 i6)), .val (.int (own_n2 i6)), .val (.int (own_lo i6)), .val (.int (own_hi i6)), .val (.ref a13), .unset, .unset] [(.ref a21), (.ref a20), (.ref a19), (.ref a18), (.ref a18)])) rfl (by rw [hml]; rfl) (argsL := [(.ref a19), (.ref a20), (.ref a21)]) (rest := [(.ref a18)]) rfl (lenOf pd6 rfl) rfl (by show 2 * 0 + _ ≤ _; exact Nat.le_of_eq rfl) (hb hby at_297) (by decide) (by decide)
  have N22 := Fr.app N21 M22
  have Stra14_22 := Stra14_21.keepC KK22 Ea18_21 (by decide) (hw _ (List.mem_of_getElem? (i := 1) rfl))
  have Stra15_22 := Stra15_21.keepC KK22 Ea18_21 (by decide) (hw _ (List.mem_of_getElem? (i := 1) rfl))
  have Stra16_22 := Stra16_21.keepC KK22 Ea18_21 (by decide) (hw _ (List.mem_of_getElem? (i := 1) rfl))
  have Stra19_22 := Stra19_21.keepC KK22 Ea18_21 (by decide) (hw _ (List.mem_of_getElem? (i := 1) rfl))
  have Stra20_22 := Stra20_21.keepC KK22 Ea18_21 (by decide) (hw _ (List.mem_of_getElem? (i := 1) rfl))
  have Stra21_22 := S21.keepC KK22 Ea18_21 (by decide) (hw _ (List.mem_of_getElem? (i := 1) rfl))
  have LO_22 := LO21.keepC KK22 Ea18_21 (by decide) (hw _ (List.mem_of_getElem? (i := 1) rfl))
  have O_22 := O_21.keep KK22 (allS z18 all0)
  have Ea13_22 := Ea13_21.keep KK22
  have Fa13_className_22 := Fa13_className_21.keep KK22 (ninS ne_a13_a18 nin0)
  have Fa13_name_22 := Fa13_name_21.keep KK22 (ninS ne_a13_a18 nin0)
  have Fa13_key_22 := Fa13_key_21.keep KK22 (ninS ne_a13_a18 nin0)
  have Ea18_22 := Ea18_21.keep KK22
  have K22 := K21.trans KK22 (allS (Or.inr q18) all0)
  refine own_go st22 ?_
  show own_Fin p.tables e below _ (T22.setTop (mkF m 300 #[.val (.int i1), .val (.int i2), .val (.int i3), .val (.int i4), .val (.int i5), .val (.int i6), .val (.int (own_l i1)), .val (.int (own_lo i1)), .val (.int (own_hi i1)), .val (.int (own_l i2)), .val (.int (own_lo i2)), .val (.int (own_hi i2)), .val (.int (own_lb i1 i3 i5)), .val (.int (own_b0 i1 i3 i5)), .val (.int (own_b1 i1 i3 i5)), .val (.int (own_kb i2 i4 i5)), .val (.int (own_m0 i2 i4 i5)), .val (.int (own_m1 i2 i4 i5)), .val (.int (own_n1 i6)), .val (.int (own_n2 i6)), .val (.int (own_lo i6)), .val (.int (own_hi i6)), .val (.ref a13), .unset, .unset] [(.ref a18)]))
  refine own_go (fun _ k => XS.astore X22.here hx rfl (hb hby at_300) rfl rfl (l' := #[.val (.int i1), .val (.int i2), .val (.int i3), .val (.int i4), .val (.int i5), .val (.int i6), .val (.int (own_l i1)), .val (.int (own_lo i1)), .val (.int (own_hi i1)), .val (.int (own_l i2)), .val (.int (own_lo i2)), .val (.int (own_hi i2)), .val (.int (own_lb i1 i3 i5)), .val (.int (own_b0 i1 i3 i5)), .val (.int (own_b1 i1 i3 i5)), .val (.int (own_kb i2 i4 i5)), .val (.int (own_m0 i2 i4 i5)), .val (.int (own_m1 i2 i4 i5)), .val (.int (own_n1 i6)), .val (.int (own_n2 i6)), .val (.int (own_lo i6)), .val (.int (own_hi i6)), .val (.ref a13), .val (.ref a18), .unset]) rfl k) ?_
  show own_Fin p.tables e below _ (T22.setTop (mkF m 302 #[.val (.int i1), .val (.int i2), .val (.int i3), .val (.int i4), .val (.int i5), .val (.int i6), .val (.int (own_l i1)), .val (.int (own_lo i1)), .val (.int (own_hi i1)), .val (.int (own_l i2)), .val (.int (own_lo i2)), .val (.int (own_hi i2)), .val (.int (own_lb i1 i3 i5)), .val (.int (own_b0 i1 i3 i5)), .val (.int (own_b1 i1 i3 i5)), .val (.int (own_kb i2 i4 i5)), .val (.int (own_m0 i2 i4 i5)), .val (.int (own_m1 i2 i4 i5)), .val (.int (own_n1 i6)), .val (.int (own_n2 i6)), .val (.int (own_lo i6)), .val (.int (own_hi i6)), .val (.ref a13), .val (.ref a18), .unset] []))
  obtain ⟨_, ⟨T23, L23, X23, N23, e23, rfl⟩, st23⟩ : own_Go p.tables e below (fun t => ∃ T' L', Stand p l e room_1 (s.setVm T21.vm) m #[(.int i1), (.int i2), (.int i3), (.int i4), (.int i5), (.int i6)] below meth c T' L' 26 54 ∧ Fr n0 L' ∧ T'.heap = T22.heap ∧ t = T'.setTop (mkF m 343 #[.val (.int i1), .val (.int i2), .val (.int i3), .val (.int i4), .val (.int i5), .val (.int i6), .val (.int (own_l i1)), .val (.int (own_lo i1)), .val (.int (own_hi i1)), .val (.int (own_l i2)), .val (.int (own_lo i2)), .val (.int (own_hi i2)), .val (.int (own_lb i1 i3 i5)), .val (.int (own_b0 i1 i3 i5)), .val (.int (own_b1 i1 i3 i5)), .val (.int (own_kb i2 i4 i5)), .val (.int (own_m0 i2 i4 i5)), .val (.int (own_m1 i2 i4 i5)), .val (.int (own_n1 i6)), .val (.int (own_n2 i6)), .val (.int (own_lo i6)), .val (.int (own_hi i6)), .val (.ref a13), .val (.ref a18), .unset] [(.int (own_exp i1 i2 i3 i4 i5 i6))])) (T22.setTop (mkF m 302 #[.val (.int i1), .val (.int i2), .val (.int i3), .val (.int i4), .val (.int i5), .val (.int i6), .val (.int (own_l i1)), .val (.int (own_lo i1)), .val (.int (own_hi i1)), .val (.int (own_l i2)), .val (.int (own_lo i2)), .val (.int (own_hi i2)), .val (.int (own_lb i1 i3 i5)), .val (.int (own_b0 i1 i3 i5)), .val (.int (own_b1 i1 i3 i5)), .val (.int (own_kb i2 i4 i5)), .val (.int (own_m0 i2 i4 i5)), .val (.int (own_m1 i2 i4 i5)), .val (.int (own_n1 i6)), .val (.int (own_n2 i6)), .val (.int (own_lo i6)), .val (.int (own_hi i6)), .val (.ref a13), .val (.ref a18), .unset] [])) := by
    refine own_on (fun _ k => XS.iload X22.here hx rfl (hb hby at_302) rfl k) ?_
    show own_Go p.tables e below _ (T22.setTop (mkF m 304 #[.val (.int i1), .val (.int i2), .val (.int i3), .val (.int i4), .val (.int i5), .val (.int i6), .val (.int (own_l i1)), .val (.int (own_lo i1)), .val (.int (own_hi i1)), .val (.int (own_l i2)), .val (.int (own_lo i2)), .val (.int (own_hi i2)), .val (.int (own_lb i1 i3 i5)), .val (.int (own_b0 i1 i3 i5)), .val (.int (own_b1 i1 i3 i5)), .val (.int (own_kb i2 i4 i5)), .val (.int (own_m0 i2 i4 i5)), .val (.int (own_m1 i2 i4 i5)), .val (.int (own_n1 i6)), .val (.int (own_n2 i6)), .val (.int (own_lo i6)), .val (.int (own_hi i6)), .val (.ref a13), .val (.ref a18), .unset] [(.int (own_l i1))]))
    refine own_on (fun _ k => XS.iload X22.here hx rfl (hb hby at_304) rfl k) ?_
    show own_Go p.tables e below _ (T22.setTop (mkF m 306 #[.val (.int i1), .val (.int i2), .val (.int i3), .val (.int i4), .val (.int i5), .val (.int i6), .val (.int (own_l i1)), .val (.int (own_lo i1)), .val (.int (own_hi i1)), .val (.int (own_l i2)), .val (.int (own_lo i2)), .val (.int (own_hi i2)), .val (.int (own_lb i1 i3 i5)), .val (.int (own_b0 i1 i3 i5)), .val (.int (own_b1 i1 i3 i5)), .val (.int (own_kb i2 i4 i5)), .val (.int (own_m0 i2 i4 i5)), .val (.int (own_m1 i2 i4 i5)), .val (.int (own_n1 i6)), .val (.int (own_n2 i6)), .val (.int (own_lo i6)), .val (.int (own_hi i6)), .val (.ref a13), .val (.ref a18), .unset] [(.int (own_lo i1)), (.int (own_l i1))]))
    refine own_on (fun _ k => XS.iload X22.here hx rfl (hb hby at_306) rfl k) ?_
    show own_Go p.tables e below _ (T22.setTop (mkF m 308 #[.val (.int i1), .val (.int i2), .val (.int i3), .val (.int i4), .val (.int i5), .val (.int i6), .val (.int (own_l i1)), .val (.int (own_lo i1)), .val (.int (own_hi i1)), .val (.int (own_l i2)), .val (.int (own_lo i2)), .val (.int (own_hi i2)), .val (.int (own_lb i1 i3 i5)), .val (.int (own_b0 i1 i3 i5)), .val (.int (own_b1 i1 i3 i5)), .val (.int (own_kb i2 i4 i5)), .val (.int (own_m0 i2 i4 i5)), .val (.int (own_m1 i2 i4 i5)), .val (.int (own_n1 i6)), .val (.int (own_n2 i6)), .val (.int (own_lo i6)), .val (.int (own_hi i6)), .val (.ref a13), .val (.ref a18), .unset] [(.int (own_hi i1)), (.int (own_lo i1)), (.int (own_l i1))]))
    refine own_on (fun _ k => XS.iload X22.here hx rfl (hb hby at_308) rfl k) ?_
    show own_Go p.tables e below _ (T22.setTop (mkF m 310 #[.val (.int i1), .val (.int i2), .val (.int i3), .val (.int i4), .val (.int i5), .val (.int i6), .val (.int (own_l i1)), .val (.int (own_lo i1)), .val (.int (own_hi i1)), .val (.int (own_l i2)), .val (.int (own_lo i2)), .val (.int (own_hi i2)), .val (.int (own_lb i1 i3 i5)), .val (.int (own_b0 i1 i3 i5)), .val (.int (own_b1 i1 i3 i5)), .val (.int (own_kb i2 i4 i5)), .val (.int (own_m0 i2 i4 i5)), .val (.int (own_m1 i2 i4 i5)), .val (.int (own_n1 i6)), .val (.int (own_n2 i6)), .val (.int (own_lo i6)), .val (.int (own_hi i6)), .val (.ref a13), .val (.ref a18), .unset] [(.int (own_lb i1 i3 i5)), (.int (own_hi i1)), (.int (own_lo i1)), (.int (own_l i1))]))
    refine own_on (fun _ k => XS.iload X22.here hx rfl (hb hby at_310) rfl k) ?_
    show own_Go p.tables e below _ (T22.setTop (mkF m 312 #[.val (.int i1), .val (.int i2), .val (.int i3), .val (.int i4), .val (.int i5), .val (.int i6), .val (.int (own_l i1)), .val (.int (own_lo i1)), .val (.int (own_hi i1)), .val (.int (own_l i2)), .val (.int (own_lo i2)), .val (.int (own_hi i2)), .val (.int (own_lb i1 i3 i5)), .val (.int (own_b0 i1 i3 i5)), .val (.int (own_b1 i1 i3 i5)), .val (.int (own_kb i2 i4 i5)), .val (.int (own_m0 i2 i4 i5)), .val (.int (own_m1 i2 i4 i5)), .val (.int (own_n1 i6)), .val (.int (own_n2 i6)), .val (.int (own_lo i6)), .val (.int (own_hi i6)), .val (.ref a13), .val (.ref a18), .unset] [(.int (own_b0 i1 i3 i5)), (.int (own_lb i1 i3 i5)), (.int (own_hi i1)), (.int (own_lo i1)), (.int (own_l i1))]))
    refine own_on (fun _ k => XS.iload X22.here hx rfl (hb hby at_312) rfl k) ?_
    show own_Go p.tables e below _ (T22.setTop (mkF m 314 #[.val (.int i1), .val (.int i2), .val (.int i3), .val (.int i4), .val (.int i5), .val (.int i6), .val (.int (own_l i1)), .val (.int (own_lo i1)), .val (.int (own_hi i1)), .val (.int (own_l i2)), .val (.int (own_lo i2)), .val (.int (own_hi i2)), .val (.int (own_lb i1 i3 i5)), .val (.int (own_b0 i1 i3 i5)), .val (.int (own_b1 i1 i3 i5)), .val (.int (own_kb i2 i4 i5)), .val (.int (own_m0 i2 i4 i5)), .val (.int (own_m1 i2 i4 i5)), .val (.int (own_n1 i6)), .val (.int (own_n2 i6)), .val (.int (own_lo i6)), .val (.int (own_hi i6)), .val (.ref a13), .val (.ref a18), .unset] [(.int (own_b1 i1 i3 i5)), (.int (own_b0 i1 i3 i5)), (.int (own_lb i1 i3 i5)), (.int (own_hi i1)), (.int (own_lo i1)), (.int (own_l i1))]))
    obtain ⟨_, T24, L24, X24, ⟨rfl, M24, e24⟩, st24⟩ := own_callS X22 hx hZ21 ho21 (hw _ (List.mem_of_getElem? (i := 44) rfl)) (hw _ (List.mem_of_getElem? (i := 45) rfl)) (hw _ (List.mem_of_getElem? (i := 5) rfl)) (hw _ (List.mem_of_getElem? (i := 46) rfl)) (by decide) (W := 0) (rm3 l Z a0 hw [] (own_l i1) (own_lo i1) (own_hi i1) (own_lb i1 i3 i5) (own_b0 i1 i3 i5) (own_b1 i1 i3 i5) T22.heap n0 (Nat.le_trans Z0 K22.1) ) (by decide) (by decide) rfl (g := (mkF m 314 #[.val (.int i1), .val (.int i2), .val (.int i3), .val (.int i4), .val (.int i5), .val (.int i6), .val (.int (own_l i1)), .val (.int (own_lo i1)), .val (.int (own_hi i1)), .val (.int (own_l i2)), .val (.int (own_lo i2)), .val (.int (own_hi i2)), .val (.int (own_lb i1 i3 i5)), .val (.int (own_b0 i1 i3 i5)), .val (.int (own_b1 i1 i3 i5)), .val (.int (own_kb i2 i4 i5)), .val (.int (own_m0 i2 i4 i5)), .val (.int (own_m1 i2 i4 i5)), .val (.int (own_n1 i6)), .val (.int (own_n2 i6)), .val (.int (own_lo i6)), .val (.int (own_hi i6)), .val (.ref a13), .val (.ref a18), .unset] [(.int (own_b1 i1 i3 i5)), (.int (own_b0 i1 i3 i5)), (.int (own_lb i1 i3 i5)), (.int (own_hi i1)), (.int (own_lo i1)), (.int (own_l i1))])) rfl (by rw [hml]; rfl) (argsL := [(.int (own_l i1)), (.int (own_lo i1)), (.int (own_hi i1)), (.int (own_lb i1 i3 i5)), (.int (own_b0 i1 i3 i5)), (.int (own_b1 i1 i3 i5))]) (rest := []) rfl (lenOf pd4 rfl) rfl (by show 2 * 0 + _ ≤ _; exact Nat.le_of_eq rfl) (hb hby at_314) (by decide) (by decide)
    have N24 := Fr.app N22 M24
    refine own_on st24 ?_
    show own_Go p.tables e below _ (T24.setTop (mkF m 317 #[.val (.int i1), .val (.int i2), .val (.int i3), .val (.int i4), .val (.int i5), .val (.int i6), .val (.int (own_l i1)), .val (.int (own_lo i1)), .val (.int (own_hi i1)), .val (.int (own_l i2)), .val (.int (own_lo i2)), .val (.int (own_hi i2)), .val (.int (own_lb i1 i3 i5)), .val (.int (own_b0 i1 i3 i5)), .val (.int (own_b1 i1 i3 i5)), .val (.int (own_kb i2 i4 i5)), .val (.int (own_m0 i2 i4 i5)), .val (.int (own_m1 i2 i4 i5)), .val (.int (own_n1 i6)), .val (.int (own_n2 i6)), .val (.int (own_lo i6)), .val (.int (own_hi i6)), .val (.ref a13), .val (.ref a18), .unset] [(.int (f3 (own_l i1) (own_lo i1) (own_hi i1) (own_lb i1 i3 i5) (own_b0 i1 i3 i5) (own_b1 i1 i3 i5)))]))
    by_cases hc25 : (f3 (own_l i1) (own_lo i1) (own_hi i1) (own_lb i1 i3 i5) (own_b0 i1 i3 i5) (own_b1 i1 i3 i5)) = (0 : Int32)
    · refine own_on (fun _ k => XS.ifYes X24.here hx rfl (pc0 := 317) (pc' := 342) rfl (hb hby at_317) rfl (XT.i0_eq_t hc25) (by decide) (by decide) k) ?_
      show own_Go p.tables e below _ (T24.setTop (mkF m 342 #[.val (.int i1), .val (.int i2), .val (.int i3), .val (.int i4), .val (.int i5), .val (.int i6), .val (.int (own_l i1)), .val (.int (own_lo i1)), .val (.int (own_hi i1)), .val (.int (own_l i2)), .val (.int (own_lo i2)), .val (.int (own_hi i2)), .val (.int (own_lb i1 i3 i5)), .val (.int (own_b0 i1 i3 i5)), .val (.int (own_b1 i1 i3 i5)), .val (.int (own_kb i2 i4 i5)), .val (.int (own_m0 i2 i4 i5)), .val (.int (own_m1 i2 i4 i5)), .val (.int (own_n1 i6)), .val (.int (own_n2 i6)), .val (.int (own_lo i6)), .val (.int (own_hi i6)), .val (.ref a13), .val (.ref a18), .unset] []))
      refine own_on (fun _ k => XT.iconstV X24.here hx rfl (0 : Int32) (hb hby at_342) (by decide) k) ?_
      show own_Go p.tables e below _ (T24.setTop (mkF m 343 #[.val (.int i1), .val (.int i2), .val (.int i3), .val (.int i4), .val (.int i5), .val (.int i6), .val (.int (own_l i1)), .val (.int (own_lo i1)), .val (.int (own_hi i1)), .val (.int (own_l i2)), .val (.int (own_lo i2)), .val (.int (own_hi i2)), .val (.int (own_lb i1 i3 i5)), .val (.int (own_b0 i1 i3 i5)), .val (.int (own_b1 i1 i3 i5)), .val (.int (own_kb i2 i4 i5)), .val (.int (own_m0 i2 i4 i5)), .val (.int (own_m1 i2 i4 i5)), .val (.int (own_n1 i6)), .val (.int (own_n2 i6)), .val (.int (own_lo i6)), .val (.int (own_hi i6)), .val (.ref a13), .val (.ref a18), .unset] [(.int (0 : Int32))]))
      exact own_here ⟨T24, _, X24, N24, e24, by rw [show (own_exp i1 i2 i3 i4 i5 i6) = (0 : Int32) from by simp only [own_exp, if_pos hc25] <;> rfl]⟩
    · refine own_on (fun _ k => XS.ifNo X24.here hx rfl (hb hby at_317) rfl (XT.i0_eq_f hc25) k) ?_
      show own_Go p.tables e below _ (T24.setTop (mkF m 320 #[.val (.int i1), .val (.int i2), .val (.int i3), .val (.int i4), .val (.int i5), .val (.int i6), .val (.int (own_l i1)), .val (.int (own_lo i1)), .val (.int (own_hi i1)), .val (.int (own_l i2)), .val (.int (own_lo i2)), .val (.int (own_hi i2)), .val (.int (own_lb i1 i3 i5)), .val (.int (own_b0 i1 i3 i5)), .val (.int (own_b1 i1 i3 i5)), .val (.int (own_kb i2 i4 i5)), .val (.int (own_m0 i2 i4 i5)), .val (.int (own_m1 i2 i4 i5)), .val (.int (own_n1 i6)), .val (.int (own_n2 i6)), .val (.int (own_lo i6)), .val (.int (own_hi i6)), .val (.ref a13), .val (.ref a18), .unset] []))
      refine own_on (fun _ k => XS.iload X24.here hx rfl (hb hby at_320) rfl k) ?_
      show own_Go p.tables e below _ (T24.setTop (mkF m 322 #[.val (.int i1), .val (.int i2), .val (.int i3), .val (.int i4), .val (.int i5), .val (.int i6), .val (.int (own_l i1)), .val (.int (own_lo i1)), .val (.int (own_hi i1)), .val (.int (own_l i2)), .val (.int (own_lo i2)), .val (.int (own_hi i2)), .val (.int (own_lb i1 i3 i5)), .val (.int (own_b0 i1 i3 i5)), .val (.int (own_b1 i1 i3 i5)), .val (.int (own_kb i2 i4 i5)), .val (.int (own_m0 i2 i4 i5)), .val (.int (own_m1 i2 i4 i5)), .val (.int (own_n1 i6)), .val (.int (own_n2 i6)), .val (.int (own_lo i6)), .val (.int (own_hi i6)), .val (.ref a13), .val (.ref a18), .unset] [(.int (own_l i2))]))
      refine own_on (fun _ k => XS.iload X24.here hx rfl (hb hby at_322) rfl k) ?_
      show own_Go p.tables e below _ (T24.setTop (mkF m 324 #[.val (.int i1), .val (.int i2), .val (.int i3), .val (.int i4), .val (.int i5), .val (.int i6), .val (.int (own_l i1)), .val (.int (own_lo i1)), .val (.int (own_hi i1)), .val (.int (own_l i2)), .val (.int (own_lo i2)), .val (.int (own_hi i2)), .val (.int (own_lb i1 i3 i5)), .val (.int (own_b0 i1 i3 i5)), .val (.int (own_b1 i1 i3 i5)), .val (.int (own_kb i2 i4 i5)), .val (.int (own_m0 i2 i4 i5)), .val (.int (own_m1 i2 i4 i5)), .val (.int (own_n1 i6)), .val (.int (own_n2 i6)), .val (.int (own_lo i6)), .val (.int (own_hi i6)), .val (.ref a13), .val (.ref a18), .unset] [(.int (own_lo i2)), (.int (own_l i2))]))
      refine own_on (fun _ k => XS.iload X24.here hx rfl (hb hby at_324) rfl k) ?_
      show own_Go p.tables e below _ (T24.setTop (mkF m 326 #[.val (.int i1), .val (.int i2), .val (.int i3), .val (.int i4), .val (.int i5), .val (.int i6), .val (.int (own_l i1)), .val (.int (own_lo i1)), .val (.int (own_hi i1)), .val (.int (own_l i2)), .val (.int (own_lo i2)), .val (.int (own_hi i2)), .val (.int (own_lb i1 i3 i5)), .val (.int (own_b0 i1 i3 i5)), .val (.int (own_b1 i1 i3 i5)), .val (.int (own_kb i2 i4 i5)), .val (.int (own_m0 i2 i4 i5)), .val (.int (own_m1 i2 i4 i5)), .val (.int (own_n1 i6)), .val (.int (own_n2 i6)), .val (.int (own_lo i6)), .val (.int (own_hi i6)), .val (.ref a13), .val (.ref a18), .unset] [(.int (own_hi i2)), (.int (own_lo i2)), (.int (own_l i2))]))
      refine own_on (fun _ k => XS.iload X24.here hx rfl (hb hby at_326) rfl k) ?_
      show own_Go p.tables e below _ (T24.setTop (mkF m 328 #[.val (.int i1), .val (.int i2), .val (.int i3), .val (.int i4), .val (.int i5), .val (.int i6), .val (.int (own_l i1)), .val (.int (own_lo i1)), .val (.int (own_hi i1)), .val (.int (own_l i2)), .val (.int (own_lo i2)), .val (.int (own_hi i2)), .val (.int (own_lb i1 i3 i5)), .val (.int (own_b0 i1 i3 i5)), .val (.int (own_b1 i1 i3 i5)), .val (.int (own_kb i2 i4 i5)), .val (.int (own_m0 i2 i4 i5)), .val (.int (own_m1 i2 i4 i5)), .val (.int (own_n1 i6)), .val (.int (own_n2 i6)), .val (.int (own_lo i6)), .val (.int (own_hi i6)), .val (.ref a13), .val (.ref a18), .unset] [(.int (own_kb i2 i4 i5)), (.int (own_hi i2)), (.int (own_lo i2)), (.int (own_l i2))]))
      refine own_on (fun _ k => XS.iload X24.here hx rfl (hb hby at_328) rfl k) ?_
      show own_Go p.tables e below _ (T24.setTop (mkF m 330 #[.val (.int i1), .val (.int i2), .val (.int i3), .val (.int i4), .val (.int i5), .val (.int i6), .val (.int (own_l i1)), .val (.int (own_lo i1)), .val (.int (own_hi i1)), .val (.int (own_l i2)), .val (.int (own_lo i2)), .val (.int (own_hi i2)), .val (.int (own_lb i1 i3 i5)), .val (.int (own_b0 i1 i3 i5)), .val (.int (own_b1 i1 i3 i5)), .val (.int (own_kb i2 i4 i5)), .val (.int (own_m0 i2 i4 i5)), .val (.int (own_m1 i2 i4 i5)), .val (.int (own_n1 i6)), .val (.int (own_n2 i6)), .val (.int (own_lo i6)), .val (.int (own_hi i6)), .val (.ref a13), .val (.ref a18), .unset] [(.int (own_m0 i2 i4 i5)), (.int (own_kb i2 i4 i5)), (.int (own_hi i2)), (.int (own_lo i2)), (.int (own_l i2))]))
      refine own_on (fun _ k => XS.iload X24.here hx rfl (hb hby at_330) rfl k) ?_
      show own_Go p.tables e below _ (T24.setTop (mkF m 332 #[.val (.int i1), .val (.int i2), .val (.int i3), .val (.int i4), .val (.int i5), .val (.int i6), .val (.int (own_l i1)), .val (.int (own_lo i1)), .val (.int (own_hi i1)), .val (.int (own_l i2)), .val (.int (own_lo i2)), .val (.int (own_hi i2)), .val (.int (own_lb i1 i3 i5)), .val (.int (own_b0 i1 i3 i5)), .val (.int (own_b1 i1 i3 i5)), .val (.int (own_kb i2 i4 i5)), .val (.int (own_m0 i2 i4 i5)), .val (.int (own_m1 i2 i4 i5)), .val (.int (own_n1 i6)), .val (.int (own_n2 i6)), .val (.int (own_lo i6)), .val (.int (own_hi i6)), .val (.ref a13), .val (.ref a18), .unset] [(.int (own_m1 i2 i4 i5)), (.int (own_m0 i2 i4 i5)), (.int (own_kb i2 i4 i5)), (.int (own_hi i2)), (.int (own_lo i2)), (.int (own_l i2))]))
      obtain ⟨_, T26, L26, X26, ⟨rfl, M26, e26⟩, st26⟩ := own_callS X24 hx hZ21 ho21 (hw _ (List.mem_of_getElem? (i := 44) rfl)) (hw _ (List.mem_of_getElem? (i := 45) rfl)) (hw _ (List.mem_of_getElem? (i := 5) rfl)) (hw _ (List.mem_of_getElem? (i := 46) rfl)) (by decide) (W := 0) (rm3 l Z a0 hw [] (own_l i2) (own_lo i2) (own_hi i2) (own_kb i2 i4 i5) (own_m0 i2 i4 i5) (own_m1 i2 i4 i5) T22.heap n0 (Nat.le_trans Z0 K22.1) ) (by decide) (by decide) e24 (g := (mkF m 332 #[.val (.int i1), .val (.int i2), .val (.int i3), .val (.int i4), .val (.int i5), .val (.int i6), .val (.int (own_l i1)), .val (.int (own_lo i1)), .val (.int (own_hi i1)), .val (.int (own_l i2)), .val (.int (own_lo i2)), .val (.int (own_hi i2)), .val (.int (own_lb i1 i3 i5)), .val (.int (own_b0 i1 i3 i5)), .val (.int (own_b1 i1 i3 i5)), .val (.int (own_kb i2 i4 i5)), .val (.int (own_m0 i2 i4 i5)), .val (.int (own_m1 i2 i4 i5)), .val (.int (own_n1 i6)), .val (.int (own_n2 i6)), .val (.int (own_lo i6)), .val (.int (own_hi i6)), .val (.ref a13), .val (.ref a18), .unset] [(.int (own_m1 i2 i4 i5)), (.int (own_m0 i2 i4 i5)), (.int (own_kb i2 i4 i5)), (.int (own_hi i2)), (.int (own_lo i2)), (.int (own_l i2))])) rfl (by rw [hml]; rfl) (argsL := [(.int (own_l i2)), (.int (own_lo i2)), (.int (own_hi i2)), (.int (own_kb i2 i4 i5)), (.int (own_m0 i2 i4 i5)), (.int (own_m1 i2 i4 i5))]) (rest := []) rfl (lenOf pd4 rfl) rfl (by show 2 * 0 + _ ≤ _; exact Nat.le_of_eq rfl) (hb hby at_332) (by decide) (by decide)
      have N26 := Fr.app N24 M26
      refine own_on st26 ?_
      show own_Go p.tables e below _ (T26.setTop (mkF m 335 #[.val (.int i1), .val (.int i2), .val (.int i3), .val (.int i4), .val (.int i5), .val (.int i6), .val (.int (own_l i1)), .val (.int (own_lo i1)), .val (.int (own_hi i1)), .val (.int (own_l i2)), .val (.int (own_lo i2)), .val (.int (own_hi i2)), .val (.int (own_lb i1 i3 i5)), .val (.int (own_b0 i1 i3 i5)), .val (.int (own_b1 i1 i3 i5)), .val (.int (own_kb i2 i4 i5)), .val (.int (own_m0 i2 i4 i5)), .val (.int (own_m1 i2 i4 i5)), .val (.int (own_n1 i6)), .val (.int (own_n2 i6)), .val (.int (own_lo i6)), .val (.int (own_hi i6)), .val (.ref a13), .val (.ref a18), .unset] [(.int (f3 (own_l i2) (own_lo i2) (own_hi i2) (own_kb i2 i4 i5) (own_m0 i2 i4 i5) (own_m1 i2 i4 i5)))]))
      by_cases hc27 : (f3 (own_l i2) (own_lo i2) (own_hi i2) (own_kb i2 i4 i5) (own_m0 i2 i4 i5) (own_m1 i2 i4 i5)) = (0 : Int32)
      · refine own_on (fun _ k => XS.ifYes X26.here hx rfl (pc0 := 335) (pc' := 342) rfl (hb hby at_335) rfl (XT.i0_eq_t hc27) (by decide) (by decide) k) ?_
        show own_Go p.tables e below _ (T26.setTop (mkF m 342 #[.val (.int i1), .val (.int i2), .val (.int i3), .val (.int i4), .val (.int i5), .val (.int i6), .val (.int (own_l i1)), .val (.int (own_lo i1)), .val (.int (own_hi i1)), .val (.int (own_l i2)), .val (.int (own_lo i2)), .val (.int (own_hi i2)), .val (.int (own_lb i1 i3 i5)), .val (.int (own_b0 i1 i3 i5)), .val (.int (own_b1 i1 i3 i5)), .val (.int (own_kb i2 i4 i5)), .val (.int (own_m0 i2 i4 i5)), .val (.int (own_m1 i2 i4 i5)), .val (.int (own_n1 i6)), .val (.int (own_n2 i6)), .val (.int (own_lo i6)), .val (.int (own_hi i6)), .val (.ref a13), .val (.ref a18), .unset] []))
        refine own_on (fun _ k => XT.iconstV X26.here hx rfl (0 : Int32) (hb hby at_342) (by decide) k) ?_
        show own_Go p.tables e below _ (T26.setTop (mkF m 343 #[.val (.int i1), .val (.int i2), .val (.int i3), .val (.int i4), .val (.int i5), .val (.int i6), .val (.int (own_l i1)), .val (.int (own_lo i1)), .val (.int (own_hi i1)), .val (.int (own_l i2)), .val (.int (own_lo i2)), .val (.int (own_hi i2)), .val (.int (own_lb i1 i3 i5)), .val (.int (own_b0 i1 i3 i5)), .val (.int (own_b1 i1 i3 i5)), .val (.int (own_kb i2 i4 i5)), .val (.int (own_m0 i2 i4 i5)), .val (.int (own_m1 i2 i4 i5)), .val (.int (own_n1 i6)), .val (.int (own_n2 i6)), .val (.int (own_lo i6)), .val (.int (own_hi i6)), .val (.ref a13), .val (.ref a18), .unset] [(.int (0 : Int32))]))
        exact own_here ⟨T26, _, X26, N26, e26, by rw [show (own_exp i1 i2 i3 i4 i5 i6) = (0 : Int32) from by simp only [own_exp, if_neg hc25, if_pos hc27] <;> rfl]⟩
      · refine own_on (fun _ k => XS.ifNo X26.here hx rfl (hb hby at_335) rfl (XT.i0_eq_f hc27) k) ?_
        show own_Go p.tables e below _ (T26.setTop (mkF m 338 #[.val (.int i1), .val (.int i2), .val (.int i3), .val (.int i4), .val (.int i5), .val (.int i6), .val (.int (own_l i1)), .val (.int (own_lo i1)), .val (.int (own_hi i1)), .val (.int (own_l i2)), .val (.int (own_lo i2)), .val (.int (own_hi i2)), .val (.int (own_lb i1 i3 i5)), .val (.int (own_b0 i1 i3 i5)), .val (.int (own_b1 i1 i3 i5)), .val (.int (own_kb i2 i4 i5)), .val (.int (own_m0 i2 i4 i5)), .val (.int (own_m1 i2 i4 i5)), .val (.int (own_n1 i6)), .val (.int (own_n2 i6)), .val (.int (own_lo i6)), .val (.int (own_hi i6)), .val (.ref a13), .val (.ref a18), .unset] []))
        refine own_on (fun _ k => XT.iconstV X26.here hx rfl (1 : Int32) (hb hby at_338) (by decide) k) ?_
        show own_Go p.tables e below _ (T26.setTop (mkF m 339 #[.val (.int i1), .val (.int i2), .val (.int i3), .val (.int i4), .val (.int i5), .val (.int i6), .val (.int (own_l i1)), .val (.int (own_lo i1)), .val (.int (own_hi i1)), .val (.int (own_l i2)), .val (.int (own_lo i2)), .val (.int (own_hi i2)), .val (.int (own_lb i1 i3 i5)), .val (.int (own_b0 i1 i3 i5)), .val (.int (own_b1 i1 i3 i5)), .val (.int (own_kb i2 i4 i5)), .val (.int (own_m0 i2 i4 i5)), .val (.int (own_m1 i2 i4 i5)), .val (.int (own_n1 i6)), .val (.int (own_n2 i6)), .val (.int (own_lo i6)), .val (.int (own_hi i6)), .val (.ref a13), .val (.ref a18), .unset] [(.int (1 : Int32))]))
        refine own_on (fun _ k => XS.goto X26.here hx rfl (pc0 := 339) (pc' := 343) rfl (hb hby at_339) (by decide) (by decide) k) ?_
        show own_Go p.tables e below _ (T26.setTop (mkF m 343 #[.val (.int i1), .val (.int i2), .val (.int i3), .val (.int i4), .val (.int i5), .val (.int i6), .val (.int (own_l i1)), .val (.int (own_lo i1)), .val (.int (own_hi i1)), .val (.int (own_l i2)), .val (.int (own_lo i2)), .val (.int (own_hi i2)), .val (.int (own_lb i1 i3 i5)), .val (.int (own_b0 i1 i3 i5)), .val (.int (own_b1 i1 i3 i5)), .val (.int (own_kb i2 i4 i5)), .val (.int (own_m0 i2 i4 i5)), .val (.int (own_m1 i2 i4 i5)), .val (.int (own_n1 i6)), .val (.int (own_n2 i6)), .val (.int (own_lo i6)), .val (.int (own_hi i6)), .val (.ref a13), .val (.ref a18), .unset] [(.int (1 : Int32))]))
        exact own_here ⟨T26, _, X26, N26, e26, by rw [show (own_exp i1 i2 i3 i4 i5 i6) = (1 : Int32) from by simp only [own_exp, if_neg hc25, if_neg hc27] <;> rfl]⟩
  refine own_go st23 ?_
  show own_Fin p.tables e below _ (T23.setTop (mkF m 343 #[.val (.int i1), .val (.int i2), .val (.int i3), .val (.int i4), .val (.int i5), .val (.int i6), .val (.int (own_l i1)), .val (.int (own_lo i1)), .val (.int (own_hi i1)), .val (.int (own_l i2)), .val (.int (own_lo i2)), .val (.int (own_hi i2)), .val (.int (own_lb i1 i3 i5)), .val (.int (own_b0 i1 i3 i5)), .val (.int (own_b1 i1 i3 i5)), .val (.int (own_kb i2 i4 i5)), .val (.int (own_m0 i2 i4 i5)), .val (.int (own_m1 i2 i4 i5)), .val (.int (own_n1 i6)), .val (.int (own_n2 i6)), .val (.int (own_lo i6)), .val (.int (own_hi i6)), .val (.ref a13), .val (.ref a18), .unset] [(.int (own_exp i1 i2 i3 i4 i5 i6))]))
  refine own_go (fun _ k => XS.istore X23.here hx rfl (hb hby at_343) rfl (l' := #[.val (.int i1), .val (.int i2), .val (.int i3), .val (.int i4), .val (.int i5), .val (.int i6), .val (.int (own_l i1)), .val (.int (own_lo i1)), .val (.int (own_hi i1)), .val (.int (own_l i2)), .val (.int (own_lo i2)), .val (.int (own_hi i2)), .val (.int (own_lb i1 i3 i5)), .val (.int (own_b0 i1 i3 i5)), .val (.int (own_b1 i1 i3 i5)), .val (.int (own_kb i2 i4 i5)), .val (.int (own_m0 i2 i4 i5)), .val (.int (own_m1 i2 i4 i5)), .val (.int (own_n1 i6)), .val (.int (own_n2 i6)), .val (.int (own_lo i6)), .val (.int (own_hi i6)), .val (.ref a13), .val (.ref a18), .val (.int (own_exp i1 i2 i3 i4 i5 i6))]) rfl k) ?_
  show own_Fin p.tables e below _ (T23.setTop (mkF m 345 #[.val (.int i1), .val (.int i2), .val (.int i3), .val (.int i4), .val (.int i5), .val (.int i6), .val (.int (own_l i1)), .val (.int (own_lo i1)), .val (.int (own_hi i1)), .val (.int (own_l i2)), .val (.int (own_lo i2)), .val (.int (own_hi i2)), .val (.int (own_lb i1 i3 i5)), .val (.int (own_b0 i1 i3 i5)), .val (.int (own_b1 i1 i3 i5)), .val (.int (own_kb i2 i4 i5)), .val (.int (own_m0 i2 i4 i5)), .val (.int (own_m1 i2 i4 i5)), .val (.int (own_n1 i6)), .val (.int (own_n2 i6)), .val (.int (own_lo i6)), .val (.int (own_hi i6)), .val (.ref a13), .val (.ref a18), .val (.int (own_exp i1 i2 i3 i4 i5 i6))] []))
  refine own_go (fun _ k => XS.aload X23.here hx rfl (hb hby at_345) rfl rfl k) ?_
  show own_Fin p.tables e below _ (T23.setTop (mkF m 347 #[.val (.int i1), .val (.int i2), .val (.int i3), .val (.int i4), .val (.int i5), .val (.int i6), .val (.int (own_l i1)), .val (.int (own_lo i1)), .val (.int (own_hi i1)), .val (.int (own_l i2)), .val (.int (own_lo i2)), .val (.int (own_hi i2)), .val (.int (own_lb i1 i3 i5)), .val (.int (own_b0 i1 i3 i5)), .val (.int (own_b1 i1 i3 i5)), .val (.int (own_kb i2 i4 i5)), .val (.int (own_m0 i2 i4 i5)), .val (.int (own_m1 i2 i4 i5)), .val (.int (own_n1 i6)), .val (.int (own_n2 i6)), .val (.int (own_lo i6)), .val (.int (own_hi i6)), .val (.ref a13), .val (.ref a18), .val (.int (own_exp i1 i2 i3 i4 i5 i6))] [(.ref a13)]))
  refine own_go (fun _ k => XS.aload X23.here hx rfl (hb hby at_347) rfl rfl k) ?_
  show own_Fin p.tables e below _ (T23.setTop (mkF m 349 #[.val (.int i1), .val (.int i2), .val (.int i3), .val (.int i4), .val (.int i5), .val (.int i6), .val (.int (own_l i1)), .val (.int (own_lo i1)), .val (.int (own_hi i1)), .val (.int (own_l i2)), .val (.int (own_lo i2)), .val (.int (own_hi i2)), .val (.int (own_lb i1 i3 i5)), .val (.int (own_b0 i1 i3 i5)), .val (.int (own_b1 i1 i3 i5)), .val (.int (own_kb i2 i4 i5)), .val (.int (own_m0 i2 i4 i5)), .val (.int (own_m1 i2 i4 i5)), .val (.int (own_n1 i6)), .val (.int (own_n2 i6)), .val (.int (own_lo i6)), .val (.int (own_hi i6)), .val (.ref a13), .val (.ref a18), .val (.int (own_exp i1 i2 i3 i4 i5 i6))] [(.ref a18), (.ref a13)]))
  obtain ⟨_, T28, L28, X28, ⟨rfl, M28, e28⟩, st28⟩ := own_callV X23 hx hZ21 ho21 (hw _ (List.mem_of_getElem? (i := 47) rfl)) (hw _ (List.mem_of_getElem? (i := 48) rfl)) (hw _ (List.mem_of_getElem? (i := 50) rfl)) (hw _ (List.mem_of_getElem? (i := 49) rfl)) (hw _ (List.mem_of_getElem? (i := 2) rfl)) (hw _ (List.mem_of_getElem? (i := 51) rfl)) (by decide) (W := 0) (rm6 l Z a0 hw [] a13 a18 T22.heap n0 (Nat.le_trans Z0 K22.1) (own_cs (own_l i1) (own_lo i1) (own_hi i1)) (own_cs (own_l i2) (own_lo i2) (own_hi i2)) (own_cs (own_lb i1 i3 i5) (own_b0 i1 i3 i5) (own_b1 i1 i3 i5)) (own_cs (own_kb i2 i4 i5) (own_m0 i2 i4 i5) (own_m1 i2 i4 i5)) a14 a16 a19 a21 (T14.heap.size) (T16.heap.size) (T19.heap.size) (T21.heap.size) Fa13_className_22 Fa13_key_22 G22_className G22_key Stra14_22 Stra16_22 Stra19_22 Stra21_22 ic SC hz O_22) (by decide) (by decide) e23 Ea13_22 (g := (mkF m 349 #[.val (.int i1), .val (.int i2), .val (.int i3), .val (.int i4), .val (.int i5), .val (.int i6), .val (.int (own_l i1)), .val (.int (own_lo i1)), .val (.int (own_hi i1)), .val (.int (own_l i2)), .val (.int (own_lo i2)), .val (.int (own_hi i2)), .val (.int (own_lb i1 i3 i5)), .val (.int (own_b0 i1 i3 i5)), .val (.int (own_b1 i1 i3 i5)), .val (.int (own_kb i2 i4 i5)), .val (.int (own_m0 i2 i4 i5)), .val (.int (own_m1 i2 i4 i5)), .val (.int (own_n1 i6)), .val (.int (own_n2 i6)), .val (.int (own_lo i6)), .val (.int (own_hi i6)), .val (.ref a13), .val (.ref a18), .val (.int (own_exp i1 i2 i3 i4 i5 i6))] [(.ref a18), (.ref a13)])) rfl (by rw [hml]; rfl) (argsL := [(.ref a18)]) (rest := []) rfl (lenOf pd7 rfl) rfl (by show 2 * 0 + _ ≤ _; exact Nat.le_of_eq rfl) (hb hby at_349) (by decide) (by decide)
  have N28 := Fr.app N23 M28
  refine own_go st28 ?_
  show own_Fin p.tables e below _ (T28.setTop (mkF m 352 #[.val (.int i1), .val (.int i2), .val (.int i3), .val (.int i4), .val (.int i5), .val (.int i6), .val (.int (own_l i1)), .val (.int (own_lo i1)), .val (.int (own_hi i1)), .val (.int (own_l i2)), .val (.int (own_lo i2)), .val (.int (own_hi i2)), .val (.int (own_lb i1 i3 i5)), .val (.int (own_b0 i1 i3 i5)), .val (.int (own_b1 i1 i3 i5)), .val (.int (own_kb i2 i4 i5)), .val (.int (own_m0 i2 i4 i5)), .val (.int (own_m1 i2 i4 i5)), .val (.int (own_n1 i6)), .val (.int (own_n2 i6)), .val (.int (own_lo i6)), .val (.int (own_hi i6)), .val (.ref a13), .val (.ref a18), .val (.int (own_exp i1 i2 i3 i4 i5 i6))] [(.int (f6 (own_cs (own_l i1) (own_lo i1) (own_hi i1)) (own_cs (own_l i2) (own_lo i2) (own_hi i2)) (own_cs (own_lb i1 i3 i5) (own_b0 i1 i3 i5) (own_b1 i1 i3 i5)) (own_cs (own_kb i2 i4 i5) (own_m0 i2 i4 i5) (own_m1 i2 i4 i5))))]))
  refine own_go (fun _ k => XS.iload X28.here hx rfl (hb hby at_352) rfl k) ?_
  show own_Fin p.tables e below _ (T28.setTop (mkF m 354 #[.val (.int i1), .val (.int i2), .val (.int i3), .val (.int i4), .val (.int i5), .val (.int i6), .val (.int (own_l i1)), .val (.int (own_lo i1)), .val (.int (own_hi i1)), .val (.int (own_l i2)), .val (.int (own_lo i2)), .val (.int (own_hi i2)), .val (.int (own_lb i1 i3 i5)), .val (.int (own_b0 i1 i3 i5)), .val (.int (own_b1 i1 i3 i5)), .val (.int (own_kb i2 i4 i5)), .val (.int (own_m0 i2 i4 i5)), .val (.int (own_m1 i2 i4 i5)), .val (.int (own_n1 i6)), .val (.int (own_n2 i6)), .val (.int (own_lo i6)), .val (.int (own_hi i6)), .val (.ref a13), .val (.ref a18), .val (.int (own_exp i1 i2 i3 i4 i5 i6))] [(.int (own_exp i1 i2 i3 i4 i5 i6)), (.int (f6 (own_cs (own_l i1) (own_lo i1) (own_hi i1)) (own_cs (own_l i2) (own_lo i2) (own_hi i2)) (own_cs (own_lb i1 i3 i5) (own_b0 i1 i3 i5) (own_b1 i1 i3 i5)) (own_cs (own_kb i2 i4 i5) (own_m0 i2 i4 i5) (own_m1 i2 i4 i5))))]))
  by_cases hc29 : (f6 (own_cs (own_l i1) (own_lo i1) (own_hi i1)) (own_cs (own_l i2) (own_lo i2) (own_hi i2)) (own_cs (own_lb i1 i3 i5) (own_b0 i1 i3 i5) (own_b1 i1 i3 i5)) (own_cs (own_kb i2 i4 i5) (own_m0 i2 i4 i5) (own_m1 i2 i4 i5))) = (own_exp i1 i2 i3 i4 i5 i6)
  · refine own_go (fun _ k => XS.icmpNo X28.here hx rfl (hb hby at_354) rfl (XT.ii_ne_f hc29) k) ?_
    show own_Fin p.tables e below _ (T28.setTop (mkF m 357 #[.val (.int i1), .val (.int i2), .val (.int i3), .val (.int i4), .val (.int i5), .val (.int i6), .val (.int (own_l i1)), .val (.int (own_lo i1)), .val (.int (own_hi i1)), .val (.int (own_l i2)), .val (.int (own_lo i2)), .val (.int (own_hi i2)), .val (.int (own_lb i1 i3 i5)), .val (.int (own_b0 i1 i3 i5)), .val (.int (own_b1 i1 i3 i5)), .val (.int (own_kb i2 i4 i5)), .val (.int (own_m0 i2 i4 i5)), .val (.int (own_m1 i2 i4 i5)), .val (.int (own_n1 i6)), .val (.int (own_n2 i6)), .val (.int (own_lo i6)), .val (.int (own_hi i6)), .val (.ref a13), .val (.ref a18), .val (.int (own_exp i1 i2 i3 i4 i5 i6))] []))
    refine own_go (fun _ k => XT.iconstV X28.here hx rfl (1 : Int32) (hb hby at_357) (by decide) k) ?_
    show own_Fin p.tables e below _ (T28.setTop (mkF m 358 #[.val (.int i1), .val (.int i2), .val (.int i3), .val (.int i4), .val (.int i5), .val (.int i6), .val (.int (own_l i1)), .val (.int (own_lo i1)), .val (.int (own_hi i1)), .val (.int (own_l i2)), .val (.int (own_lo i2)), .val (.int (own_hi i2)), .val (.int (own_lb i1 i3 i5)), .val (.int (own_b0 i1 i3 i5)), .val (.int (own_b1 i1 i3 i5)), .val (.int (own_kb i2 i4 i5)), .val (.int (own_m0 i2 i4 i5)), .val (.int (own_m1 i2 i4 i5)), .val (.int (own_n1 i6)), .val (.int (own_n2 i6)), .val (.int (own_lo i6)), .val (.int (own_hi i6)), .val (.ref a13), .val (.ref a18), .val (.int (own_exp i1 i2 i3 i4 i5 i6))] [(.int (1 : Int32))]))
    refine own_go (fun _ k => XS.goto X28.here hx rfl (pc0 := 358) (pc' := 362) rfl (hb hby at_358) (by decide) (by decide) k) ?_
    show own_Fin p.tables e below _ (T28.setTop (mkF m 362 #[.val (.int i1), .val (.int i2), .val (.int i3), .val (.int i4), .val (.int i5), .val (.int i6), .val (.int (own_l i1)), .val (.int (own_lo i1)), .val (.int (own_hi i1)), .val (.int (own_l i2)), .val (.int (own_lo i2)), .val (.int (own_hi i2)), .val (.int (own_lb i1 i3 i5)), .val (.int (own_b0 i1 i3 i5)), .val (.int (own_b1 i1 i3 i5)), .val (.int (own_kb i2 i4 i5)), .val (.int (own_m0 i2 i4 i5)), .val (.int (own_m1 i2 i4 i5)), .val (.int (own_n1 i6)), .val (.int (own_n2 i6)), .val (.int (own_lo i6)), .val (.int (own_hi i6)), .val (.ref a13), .val (.ref a18), .val (.int (own_exp i1 i2 i3 i4 i5 i6))] [(.int (1 : Int32))]))
    refine own_retNW X28 hx hlk hS21 (by rw [e28]; exact (Nat.le_trans (Nat.le_refl _) KK22.1)) (t := .boolean) hret (by simp) (hb hby at_362) ?_ (by decide) (by decide)
    exact ⟨by rw [show f0 i1 i2 i3 i4 i5 i6 = (1 : Int32) from by simp only [f0, if_pos hc29]] <;> rfl, N28⟩
  · refine own_go (fun _ k => XS.icmpYes X28.here hx rfl (pc0 := 354) (pc' := 361) rfl (hb hby at_354) rfl (XT.ii_ne_t hc29) (by decide) (by decide) k) ?_
    show own_Fin p.tables e below _ (T28.setTop (mkF m 361 #[.val (.int i1), .val (.int i2), .val (.int i3), .val (.int i4), .val (.int i5), .val (.int i6), .val (.int (own_l i1)), .val (.int (own_lo i1)), .val (.int (own_hi i1)), .val (.int (own_l i2)), .val (.int (own_lo i2)), .val (.int (own_hi i2)), .val (.int (own_lb i1 i3 i5)), .val (.int (own_b0 i1 i3 i5)), .val (.int (own_b1 i1 i3 i5)), .val (.int (own_kb i2 i4 i5)), .val (.int (own_m0 i2 i4 i5)), .val (.int (own_m1 i2 i4 i5)), .val (.int (own_n1 i6)), .val (.int (own_n2 i6)), .val (.int (own_lo i6)), .val (.int (own_hi i6)), .val (.ref a13), .val (.ref a18), .val (.int (own_exp i1 i2 i3 i4 i5 i6))] []))
    refine own_go (fun _ k => XT.iconstV X28.here hx rfl (0 : Int32) (hb hby at_361) (by decide) k) ?_
    show own_Fin p.tables e below _ (T28.setTop (mkF m 362 #[.val (.int i1), .val (.int i2), .val (.int i3), .val (.int i4), .val (.int i5), .val (.int i6), .val (.int (own_l i1)), .val (.int (own_lo i1)), .val (.int (own_hi i1)), .val (.int (own_l i2)), .val (.int (own_lo i2)), .val (.int (own_hi i2)), .val (.int (own_lb i1 i3 i5)), .val (.int (own_b0 i1 i3 i5)), .val (.int (own_b1 i1 i3 i5)), .val (.int (own_kb i2 i4 i5)), .val (.int (own_m0 i2 i4 i5)), .val (.int (own_m1 i2 i4 i5)), .val (.int (own_n1 i6)), .val (.int (own_n2 i6)), .val (.int (own_lo i6)), .val (.int (own_hi i6)), .val (.ref a13), .val (.ref a18), .val (.int (own_exp i1 i2 i3 i4 i5 i6))] [(.int (0 : Int32))]))
    refine own_retNW X28 hx hlk hS21 (by rw [e28]; exact (Nat.le_trans (Nat.le_refl _) KK22.1)) (t := .boolean) hret (by simp) (hb hby at_362) ?_ (by decide) (by decide)
    exact ⟨by rw [show f0 i1 i2 i3 i4 i5 i6 = (0 : Int32) from by simp only [f0, if_neg hc29]] <;> rfl, N28⟩
set_option maxRecDepth 65536 in
set_option maxHeartbeats 40000000 in
theorem comes_1 {Post : Tables → Env → Array Value → State → Outcome → State → Prop} (hpost : ∀ tb e args s v u, (limb_1_1.after args s (.returned v) u = true ∧ limb_1_2.after args s (.returned v) u = true ∧ True) → ReturnedEndW s (.returned v) u (Jvm.fieldLocs frame_1_writes args s ++ Jvm.arrayLocs frame_1_arrays args s ++ Jvm.staticLocs frame_1_statics s) 48 1216 → Post tb e args s (.returned v) u) :
    ArmFor flags0 classFile x code maxLocals ret World_1 tables_1 room_1 Calls_1 rest_1 Pre_1 Post := by
  intro l hfl _ _ p e ha hc hk s m args below hf hA hF happ hP
  obtain ⟨hcalls, hrest, hpre⟩ := hP
  obtain ⟨-, -, -, hnamed, -, -, -, hat⟩ := (Spec.applies_iff hf).mp happ
  obtain ⟨hg, hn⟩ := and_e (Cond.before_iff.mp (show (Jvm.Cond.and given_1 narrow_1).before args s = true from hpre))
  obtain ⟨hcount, hr0⟩ := and_e hg
  obtain ⟨hk0, hr1⟩ := and_e hr0
  obtain ⟨hk1, hr2⟩ := and_e hr1
  obtain ⟨hk2, hr3⟩ := and_e hr2
  obtain ⟨hk3, hr4⟩ := and_e hr3
  obtain ⟨hk4, hr5⟩ := and_e hr4
  obtain ⟨w0, w1, w2, w3, w4, w5, rfl⟩ : ∃ w0 w1 w2 w3 w4 w5 : Value, args = #[w0, w1, w2, w3, w4, w5] := by
    have hs : args.size = 6 := by simpa [Cond.value, given_1] using hcount
    obtain ⟨L⟩ := args
    match L, hs with
    | [w0, w1, w2, w3, w4, w5], _ => exact ⟨w0, w1, w2, w3, w4, w5, rfl⟩
  have hw := fun d (hd : d ∈ tables_1) => atoms_spec (ws := Jvm.Cond.code x code maxLocals ret :: tables_1) hat d (List.mem_cons_of_mem _ hd)
  obtain ⟨hsets, hown0⟩ := atoms_of _ (rest_1_c_eq ▸ (show rest_1_c.before _ s = true from hrest))
  obtain ⟨i0, ev0⟩ := is_v hk0
  obtain rfl : w0 = (.int i0) := Option.some.inj ev0
  obtain ⟨i1, ev1⟩ := is_v hk1
  obtain rfl : w1 = (.int i1) := Option.some.inj ev1
  obtain ⟨i2, ev2⟩ := is_v hk2
  obtain rfl : w2 = (.int i2) := Option.some.inj ev2
  obtain ⟨i3, ev3⟩ := is_v hk3
  obtain rfl : w3 = (.int i3) := Option.some.inj ev3
  obtain ⟨i4, ev4⟩ := is_v hk4
  obtain rfl : w4 = (.int i4) := Option.some.inj ev4
  obtain ⟨i5, ev5⟩ := is_v hr5
  obtain rfl : w5 = (.int i5) := Option.some.inj ev5
  obtain ⟨ic, evc⟩ := is_v (Cond.before_iff.mp (hsets _ (List.mem_of_getElem? (i := 1) rfl)))
  have SC : Sta s s.heap "java/lang/String" "COMPACT_STRINGS" "Z" (.int ic) := Sta.start evc (Or.inl (hsets _ (List.mem_of_getElem? (i := 0) rfl)))
  have hz : ¬ (ic = (0 : Int32)) := gotF (Cond.eq_ints evc (Term.int_eval (0))) (not_v (Cond.before_iff.mp (hsets _ (List.mem_of_getElem? (i := 2) rfl))))
  have hcw := hsets _ (List.mem_of_getElem? (i := 2) rfl)
  have hheld : Jvm.Lit.constHeld s "java/lang/String" 7 := hcalls.1 ("java/lang/String", 7) (by decide)
  obtain ⟨n, o, h1, h2, h3, _, L, rfl, ⟨hv, N⟩, hq⟩ := rm0 l s _ hw tables_1 i0 i1 i2 i3 i4 i5 s.heap s.heap.size (Nat.le_refl _) ic SC hz (Old.start s) hheld hcw p e ha hc hk s m _ below hf ((Spec.applies_iff_loose hf).mp happ).1 ⟨rfl, State.Warmed39.refl s, rfl, Or.inl IB.start⟩ trivial
  rw [own_law] at hv
  subst hv
  refine ⟨n, _, h1, h2, h3, hpost _ _ _ _ _ _ ⟨Cond.after_iff.mpr rfl, Cond.after_iff.mpr (eq_i res_at (Term.int_eval (1)) rfl), trivial⟩ ⟨hq.1, hq.2.1, hq.2.2.1, (hq.2.2.2.sift fun y hy => Or.inr (N y hy)).mono (by decide) (by decide)⟩⟩
theorem main_1_1 : Claimed_1_1 := comes_1 fun _ _ _ _ _ _ h hF => ⟨h.1, hF⟩
theorem main_1_2 : Claimed_1_2 := comes_1 fun _ _ _ _ _ _ h hF => ⟨h.2.1, hF⟩
end Jvm.Pilot.@@N@@
namespace Jvm.Pilot.@@N@@
open Jvm Jvm.ClassFile Sem Op Lib Jvm.Free Jvm.Stand Jvm.Pilot.@@N@@.Jvm.D
/-! MADE BY PROGRAM (witnessworld.py) out of the Statement's table words and the real class files: 21 classes; the members and pool entries that the words name. The judged class is class 1, her method 3. -/
namespace start1
open Jvm.ClassFile
def u (s : String) : CpInfo := .utf8 (stringToUtf16 s)
/-- a pool by its gaps: so many unusable entries, then the entry; so many at the end -/
def gap : Nat → List CpInfo → List CpInfo
  | 0, r => r
  | n + 1, r => .unusable :: gap n r
def poolList (es : List (Nat × CpInfo)) (last : Nat) : List CpInfo := es.foldr (fun e r => gap e.1 (e.2 :: r)) (gap last [])
def pool (es : List (Nat × CpInfo)) (last : Nat) : Array CpInfo := ⟨poolList es last⟩
def fileOf (pool : Array CpInfo) (this : Nat) (attrs : Array Attribute := #[]) (ms : Array MethodInfo := #[]) (fl : Nat := 33) (sup : Nat := 0) (ifs : Array Nat := #[]) (fds : Array FieldInfo := #[]) : ClassFile where
  minorVersion := 0
  majorVersion := 65
  constantPool := pool
  accessFlags := fl
  thisClass := this
  superClass := sup
  interfaces := ifs
  fields := fds
  methods := ms
  attributes := attrs
def plain (name : String) (sup : Option ClassId) : Class where
  name := name
  kind := .ordinary
  loader := none
  accessFlags := 33
  super := sup
  interfaces := #[]
  cf := none
  fields := #[]
  methods := #[]
  instanceTypes := #[]
  staticTypes := #[]
  resolved := #[]
  callSites := []
  init := .initialized
  statics := none
  mirror := none

def pool0 : Array CpInfo := pool [(5, u "<init>"), (0, u "()V"), (1, .class_ 10), (1, u "java/lang/Object")] 113

def k0c0 : Code := { maxStack := 0, maxLocals := 1, code := object_method_1_code, exceptionTable := #[], attributes := #[] }
def k0m0 : Method := { name := "<init>", desc := "()V", sig := { parameters := [], returnType := none }, accessFlags := 1, code := some k0c0 }
/-- java/lang/Object -/
def k0 : Class := { plain "java/lang/Object" none with
  accessFlags := 33
  interfaces := #[]
  cf := some (fileOf pool0 8 #[] #[{ accessFlags := 1, nameIndex := 5, descriptorIndex := 6, attributes := #[] }] 33 0 #[] #[])
  fields := #[]
  methods := #[k0m0]
  instanceTypes := #[]
  staticTypes := #[]
  resolved := Array.replicate 124 none
  statics := none }

def pool1 : Array CpInfo := pool [(2, .class_ 4), (1, u "java/lang/Object"), (0, u "<init>"), (0, u "()V"), (0, .class_ 8), (0, u "java/lang/String"), (0, .methodref 7 10), (0, .nameAndType 5 11), (0, u "([C)V"), (0, .class_ 13), (0, u "com/example/grantline/grantline/eval/ComparablePrincipal"), (0, .methodref 15 16), (0, .class_ 17), (0, .nameAndType 18 19), (0, u "com/example/grantline/grantline/eval/ComparablePrincipalIsSameAsPinLaw"), (0, u "mk"), (0, u "(ICC)Ljava/lang/String;"), (0, .methodref 12 21), (0, .nameAndType 5 22), (0, u "(Ljava/lang/String;Ljava/lang/String;Ljava/lang/String;)V"), (0, .methodref 15 24), (0, .nameAndType 25 26), (0, u "same"), (0, u "(ICCICC)Z"), (0, .methodref 12 28), (0, .nameAndType 29 30), (0, u "isSameAs"), (0, u "(Lcom/example/grantline/grantline/eval/ComparablePrincipal;)Z"), (3, u "law"), (0, u "(IIIIII)Z")] 2

def k1m0 : Method := { name := "<init>", desc := "()V", sig := { parameters := [], returnType := none }, accessFlags := 1, code := none }
def k1c1 : Code := { maxStack := 6, maxLocals := 3, code := method_2_code, exceptionTable := #[], attributes := #[] }
def k1m1 : Method := { name := "mk", desc := "(ICC)Ljava/lang/String;", sig := { parameters := [.int, .char, .char], returnType := some (.object "java/lang/String") }, accessFlags := 10, code := some k1c1 }
def k1c2 : Code := { maxStack := 2, maxLocals := 6, code := method_3_code, exceptionTable := #[], attributes := #[] }
def k1m2 : Method := { name := "same", desc := "(ICCICC)Z", sig := { parameters := [.int, .char, .char, .int, .char, .char], returnType := some .boolean }, accessFlags := 10, code := some k1c2 }
def k1c3 : Code := { maxStack := 7, maxLocals := 25, code := code, exceptionTable := #[], attributes := #[] }
def k1m3 : Method := { name := "law", desc := "(IIIIII)Z", sig := { parameters := [.int, .int, .int, .int, .int, .int], returnType := some .boolean }, accessFlags := 9, code := some k1c3 }
/-- com/example/grantline/grantline/eval/ComparablePrincipalIsSameAsPinLaw -/
def k1 : Class := { plain "com/example/grantline/grantline/eval/ComparablePrincipalIsSameAsPinLaw" (some 0) with
  accessFlags := 49
  interfaces := #[]
  cf := some (fileOf pool1 15 #[] #[{ accessFlags := 1, nameIndex := 5, descriptorIndex := 6, attributes := #[] }, { accessFlags := 10, nameIndex := 18, descriptorIndex := 19, attributes := #[] }, { accessFlags := 10, nameIndex := 25, descriptorIndex := 26, attributes := #[] }, { accessFlags := 9, nameIndex := 34, descriptorIndex := 35, attributes := #[] }] 49 2 #[] #[])
  fields := #[]
  methods := #[k1m0, k1m1, k1m2, k1m3]
  instanceTypes := #[]
  staticTypes := #[]
  resolved := Array.replicate 38 none
  statics := none }

def pool2 : Array CpInfo := pool [(1, .methodref 2 3), (0, .class_ 4), (0, .nameAndType 5 6), (0, u "java/lang/Object"), (0, u "<init>"), (0, u "()V"), (0, .class_ 8), (0, u "java/lang/Record")] 13

def k2c0 : Code := { maxStack := 1, maxLocals := 1, code := jdk_30_method_1_code, exceptionTable := #[], attributes := #[] }
def k2m0 : Method := { name := "<init>", desc := "()V", sig := { parameters := [], returnType := none }, accessFlags := 4, code := some k2c0 }
/-- java/lang/Record -/
def k2 : Class := { plain "java/lang/Record" (some 0) with
  accessFlags := 1057
  interfaces := #[]
  cf := some (fileOf pool2 7 #[] #[{ accessFlags := 4, nameIndex := 5, descriptorIndex := 6, attributes := #[] }] 1057 2 #[] #[])
  fields := #[]
  methods := #[k2m0]
  instanceTypes := #[]
  staticTypes := #[]
  resolved := Array.replicate 22 none
  statics := none }

def pool3 : Array CpInfo := pool [(1, .methodref 2 3), (0, .class_ 4), (0, .nameAndType 5 6), (0, u "java/lang/Record"), (0, u "<init>"), (0, u "()V"), (0, .fieldref 8 9), (0, .class_ 10), (0, .nameAndType 11 12), (0, u "com/example/grantline/grantline/eval/ComparablePrincipal"), (0, u "className"), (0, u "Ljava/lang/String;"), (0, .fieldref 8 14), (0, .nameAndType 15 12), (0, u "name"), (0, .fieldref 8 17), (0, .nameAndType 18 12), (0, u "key"), (4, .methodref 24 25), (0, .class_ 26), (0, .nameAndType 27 28), (0, u "java/lang/String"), (0, u "equals"), (0, u "(Ljava/lang/Object;)Z"), (2, u "(Ljava/lang/String;Ljava/lang/String;Ljava/lang/String;)V"), (69, u "isSameAs"), (0, u "(Lcom/example/grantline/grantline/eval/ComparablePrincipal;)Z")] 32

def k3c0 : Code := { maxStack := 2, maxLocals := 4, code := prog_23_method_1_code, exceptionTable := #[], attributes := #[] }
def k3m0 : Method := { name := "<init>", desc := "(Ljava/lang/String;Ljava/lang/String;Ljava/lang/String;)V", sig := { parameters := [(.object "java/lang/String"), (.object "java/lang/String"), (.object "java/lang/String")], returnType := none }, accessFlags := 0, code := some k3c0 }
def k3c1 : Code := { maxStack := 2, maxLocals := 2, code := prog_23_method_4_code, exceptionTable := #[], attributes := #[] }
def k3m1 : Method := { name := "isSameAs", desc := "(Lcom/example/grantline/grantline/eval/ComparablePrincipal;)Z", sig := { parameters := [(.object "com/example/grantline/grantline/eval/ComparablePrincipal")], returnType := some .boolean }, accessFlags := 0, code := some k3c1 }
/-- com/example/grantline/grantline/eval/ComparablePrincipal -/
def k3 : Class := { plain "com/example/grantline/grantline/eval/ComparablePrincipal" (some 2) with
  accessFlags := 48
  interfaces := #[]
  cf := some (fileOf pool3 8 #[] #[{ accessFlags := 0, nameIndex := 5, descriptorIndex := 31, attributes := #[] }, { accessFlags := 0, nameIndex := 101, descriptorIndex := 102, attributes := #[] }] 48 2 #[] #[{ accessFlags := 18, nameIndex := 11, descriptorIndex := 12, attributes := #[] }, { accessFlags := 18, nameIndex := 15, descriptorIndex := 12, attributes := #[] }, { accessFlags := 18, nameIndex := 18, descriptorIndex := 12, attributes := #[] }])
  fields := #[{ name := "className", type := (.object "java/lang/String"), accessFlags := 18, slot := 0, constantValue := 0 }, { name := "name", type := (.object "java/lang/String"), accessFlags := 18, slot := 1, constantValue := 0 }, { name := "key", type := (.object "java/lang/String"), accessFlags := 18, slot := 2, constantValue := 0 }]
  methods := #[k3m0, k3m1]
  instanceTypes := #[(.object "java/lang/String"), (.object "java/lang/String"), (.object "java/lang/String")]
  staticTypes := #[]
  resolved := Array.replicate 135 none
  statics := none }

def pool4 : Array CpInfo := pool [(1, .class_ 2), (0, u "java/io/Serializable"), (0, .class_ 4), (0, u "java/lang/Object")] 2

/-- java/io/Serializable -/
def k4 : Class := { plain "java/io/Serializable" (some 0) with
  accessFlags := 1537
  interfaces := #[]
  cf := some (fileOf pool4 1 #[] #[] 1537 3 #[] #[])
  fields := #[]
  methods := #[]
  instanceTypes := #[]
  staticTypes := #[]
  resolved := Array.replicate 7 none
  statics := none }

def pool5 : Array CpInfo := pool [(1, .class_ 2), (0, u "java/lang/Comparable"), (0, .class_ 4), (0, u "java/lang/Object")] 7

/-- java/lang/Comparable -/
def k5 : Class := { plain "java/lang/Comparable" (some 0) with
  accessFlags := 1537
  interfaces := #[]
  cf := some (fileOf pool5 1 #[] #[] 1537 3 #[] #[])
  fields := #[]
  methods := #[]
  instanceTypes := #[]
  staticTypes := #[]
  resolved := Array.replicate 12 none
  statics := none }

def pool6 : Array CpInfo := pool [(2, .class_ 4), (1, u "java/lang/CharSequence"), (42, .class_ 48), (0, u "java/lang/CharSequence$1CodePointIterator"), (10, .class_ 60), (0, u "java/lang/CharSequence$1CharIterator"), (5, .class_ 67), (0, u "java/lang/Object")] 63

/-- java/lang/CharSequence -/
def k6 : Class := { plain "java/lang/CharSequence" (some 0) with
  accessFlags := 1537
  interfaces := #[]
  cf := some (fileOf pool6 2 #[.nestMembers #[47, 59]] #[] 1537 66 #[] #[])
  fields := #[]
  methods := #[]
  instanceTypes := #[]
  staticTypes := #[]
  resolved := Array.replicate 131 none
  statics := none }

def pool7 : Array CpInfo := pool [(1, .class_ 2), (0, u "java/lang/constant/Constable"), (0, .class_ 4), (0, u "java/lang/Object")] 6

/-- java/lang/constant/Constable -/
def k7 : Class := { plain "java/lang/constant/Constable" (some 0) with
  accessFlags := 1537
  interfaces := #[]
  cf := some (fileOf pool7 1 #[] #[] 1537 3 #[] #[])
  fields := #[]
  methods := #[]
  instanceTypes := #[]
  staticTypes := #[]
  resolved := Array.replicate 11 none
  statics := none }

def pool8 : Array CpInfo := pool [(1, .class_ 2), (0, u "java/lang/constant/ConstantDesc"), (0, .class_ 4), (0, u "java/lang/Object")] 32

/-- java/lang/constant/ConstantDesc -/
def k8 : Class := { plain "java/lang/constant/ConstantDesc" (some 0) with
  accessFlags := 1537
  interfaces := #[]
  cf := some (fileOf pool8 1 #[] #[] 1537 3 #[] #[])
  fields := #[]
  methods := #[]
  instanceTypes := #[]
  staticTypes := #[]
  resolved := Array.replicate 37 none
  statics := none }

def pool9 : Array CpInfo := pool [(1, .methodref 2 3), (0, .class_ 4), (0, .nameAndType 5 6), (0, u "java/lang/Object"), (0, u "<init>"), (0, u "()V"), (0, .string 8), (0, u ""), (0, .fieldref 10 11), (0, .class_ 12), (0, .nameAndType 13 14), (0, u "java/lang/String"), (0, u "value"), (0, u "[B"), (0, .fieldref 10 16), (0, .nameAndType 17 18), (0, u "coder"), (0, u "B"), (2, u "hash"), (0, u "I"), (2, u "hashIsZero"), (0, u "Z"), (0, .methodref 10 28), (0, .nameAndType 5 29), (0, u "([CIILjava/lang/Void;)V"), (8, .fieldref 10 39), (0, .nameAndType 40 26), (0, u "COMPACT_STRINGS"), (1, .class_ 44), (1, u "java/lang/StringUTF16"), (0, u "compress"), (1, .methodref 42 48), (0, .nameAndType 49 50), (0, u "coderFromArrayLen"), (0, u "([BI)B"), (56, .class_ 109), (1, u "java/lang/StringLatin1"), (67, .methodref 42 178), (0, .nameAndType 45 179), (0, u "([CII)[B"), (361, .methodref 107 542), (0, .nameAndType 543 544), (0, u "equals"), (0, u "([B[B)Z"), (28, u "(Ljava/lang/Object;)Z"), (1, .class_ 576), (0, u "java/lang/CharSequence"), (22, u "CASE_INSENSITIVE_ORDER"), (0, u "Ljava/util/Comparator;"), (409, u "([C)V"), (90, u "serialPersistentFields"), (0, u "[Ljava/io/ObjectStreamField;"), (0, .class_ 1104), (0, u "java/lang/String$CaseInsensitiveComparator"), (1, .class_ 1107), (0, u "java/io/Serializable"), (0, .class_ 1109), (0, u "java/lang/Comparable"), (0, .class_ 1111), (0, u "java/lang/constant/Constable"), (0, .class_ 1113), (0, u "java/lang/constant/ConstantDesc"), (2, u "serialVersionUID"), (0, u "J"), (3, u "REPL"), (0, u "C"), (2, u "LATIN1"), (1, u "UTF16")] 323

def k9m0 : Method := { name := "<init>", desc := "()V", sig := { parameters := [], returnType := none }, accessFlags := 1, code := none }
def k9c1 : Code := { maxStack := 5, maxLocals := 2, code := jdk_42_method_3_code, exceptionTable := #[], attributes := #[] }
def k9m1 : Method := { name := "<init>", desc := "([C)V", sig := { parameters := [(.array .char)], returnType := none }, accessFlags := 1, code := some k9c1 }
def k9c2 : Code := { maxStack := 2, maxLocals := 3, code := jdk_42_method_66_code, exceptionTable := #[], attributes := #[] }
def k9m2 : Method := { name := "equals", desc := "(Ljava/lang/Object;)Z", sig := { parameters := [(.object "java/lang/Object")], returnType := some .boolean }, accessFlags := 1, code := some k9c2 }
def k9c3 : Code := { maxStack := 4, maxLocals := 6, code := jdk_42_method_149_code, exceptionTable := #[], attributes := #[] }
def k9m3 : Method := { name := "<init>", desc := "([CIILjava/lang/Void;)V", sig := { parameters := [(.array .char), .int, .int, (.object "java/lang/Void")], returnType := none }, accessFlags := 2, code := some k9c3 }
/-- java/lang/String -/
def k9 : Class := { plain "java/lang/String" (some 0) with
  accessFlags := 49
  interfaces := #[4, 5, 6, 7, 8]
  cf := some (fileOf pool9 10 #[.nestMembers #[1103]] #[{ accessFlags := 1, nameIndex := 5, descriptorIndex := 6, attributes := #[] }, { accessFlags := 1, nameIndex := 5, descriptorIndex := 1010, attributes := #[] }, { accessFlags := 1, nameIndex := 543, descriptorIndex := 573, attributes := #[] }, { accessFlags := 2, nameIndex := 5, descriptorIndex := 29, attributes := #[] }] 49 2 #[1106, 1108, 575, 1110, 1112] #[{ accessFlags := 18, nameIndex := 13, descriptorIndex := 14, attributes := #[] }, { accessFlags := 18, nameIndex := 17, descriptorIndex := 18, attributes := #[] }, { accessFlags := 2, nameIndex := 21, descriptorIndex := 22, attributes := #[] }, { accessFlags := 2, nameIndex := 25, descriptorIndex := 26, attributes := #[] }, { accessFlags := 26, nameIndex := 1116, descriptorIndex := 1117, attributes := #[] }, { accessFlags := 24, nameIndex := 40, descriptorIndex := 26, attributes := #[] }, { accessFlags := 26, nameIndex := 1101, descriptorIndex := 1102, attributes := #[] }, { accessFlags := 26, nameIndex := 1121, descriptorIndex := 1122, attributes := #[] }, { accessFlags := 25, nameIndex := 599, descriptorIndex := 600, attributes := #[] }, { accessFlags := 24, nameIndex := 1125, descriptorIndex := 18, attributes := #[] }, { accessFlags := 24, nameIndex := 1127, descriptorIndex := 18, attributes := #[] }])
  fields := #[{ name := "value", type := (.array .byte), accessFlags := 18, slot := 0, constantValue := 0 }, { name := "coder", type := .byte, accessFlags := 18, slot := 1, constantValue := 0 }, { name := "hash", type := .int, accessFlags := 2, slot := 2, constantValue := 0 }, { name := "hashIsZero", type := .boolean, accessFlags := 2, slot := 3, constantValue := 0 }, { name := "serialVersionUID", type := .long, accessFlags := 26, slot := 0, constantValue := 0 }, { name := "COMPACT_STRINGS", type := .boolean, accessFlags := 24, slot := 1, constantValue := 0 }, { name := "serialPersistentFields", type := (.array (.object "java/io/ObjectStreamField")), accessFlags := 26, slot := 2, constantValue := 0 }, { name := "REPL", type := .char, accessFlags := 26, slot := 3, constantValue := 0 }, { name := "CASE_INSENSITIVE_ORDER", type := (.object "java/util/Comparator"), accessFlags := 25, slot := 4, constantValue := 0 }, { name := "LATIN1", type := .byte, accessFlags := 24, slot := 5, constantValue := 0 }, { name := "UTF16", type := .byte, accessFlags := 24, slot := 6, constantValue := 0 }]
  methods := #[k9m0, k9m1, k9m2, k9m3]
  instanceTypes := #[(.array .byte), .byte, .int, .boolean]
  staticTypes := #[.long, .boolean, (.array (.object "java/io/ObjectStreamField")), .char, (.object "java/util/Comparator"), .byte, .byte]
  resolved := Array.replicate 1451 none
  statics := some 0 }

def pool10 : Array CpInfo := pool [(4, .class_ 6), (1, u "java/lang/Object"), (0, u "<init>"), (0, u "()V"), (5, .class_ 16), (1, u "java/lang/StringLatin1"), (104, u "$assertionsDisabled"), (0, u "Z"), (98, .class_ 223), (1, u "java/lang/StringLatin1$LinesSpliterator"), (57, u "equals"), (0, u "([B[B)Z"), (107, .class_ 391), (0, u "java/lang/StringLatin1$CharsSpliterator")] 3

def k10m0 : Method := { name := "<init>", desc := "()V", sig := { parameters := [], returnType := none }, accessFlags := 0, code := none }
def k10c1 : Code := { maxStack := 3, maxLocals := 3, code := jdk_43_method_13_code, exceptionTable := #[], attributes := #[] }
def k10m1 : Method := { name := "equals", desc := "([B[B)Z", sig := { parameters := [(.array .byte), (.array .byte)], returnType := some .boolean }, accessFlags := 9, code := some k10c1 }
/-- java/lang/StringLatin1 -/
def k10 : Class := { plain "java/lang/StringLatin1" (some 0) with
  accessFlags := 48
  interfaces := #[]
  cf := some (fileOf pool10 14 #[.nestMembers #[390, 221]] #[{ accessFlags := 0, nameIndex := 7, descriptorIndex := 8, attributes := #[] }, { accessFlags := 9, nameIndex := 281, descriptorIndex := 282, attributes := #[] }] 48 4 #[] #[{ accessFlags := 4120, nameIndex := 121, descriptorIndex := 122, attributes := #[] }])
  fields := #[{ name := "$assertionsDisabled", type := .boolean, accessFlags := 4120, slot := 0, constantValue := 0 }]
  methods := #[k10m0, k10m1]
  instanceTypes := #[]
  staticTypes := #[.boolean]
  resolved := Array.replicate 395 none
  statics := none }

def pool11 : Array CpInfo := pool [(6, .class_ 8), (1, u "java/lang/Object"), (0, u "<init>"), (0, u "()V"), (1, .class_ 14), (1, u "java/lang/StringUTF16"), (31, u "$assertionsDisabled"), (0, u "Z"), (13, u "HI_BYTE_SHIFT"), (0, u "I"), (2, u "LO_BYTE_SHIFT"), (49, .methodref 12 116), (0, .nameAndType 117 118), (0, u "compress"), (0, u "([CI[BII)I"), (3, u "([CII)[B"), (138, u "coderFromArrayLen"), (0, u "([BI)B"), (106, .class_ 371), (1, u "java/lang/StringUTF16$LinesSpliterator"), (58, u "MAX_LENGTH"), (196, .class_ 628), (0, u "java/lang/StringUTF16$CodePointsSpliterator"), (0, .class_ 630), (0, u "java/lang/StringUTF16$CharsSpliterator")] 4

def k11m0 : Method := { name := "<init>", desc := "()V", sig := { parameters := [], returnType := none }, accessFlags := 0, code := none }
def k11c1 : Code := { maxStack := 2, maxLocals := 2, code := jdk_52_method_15_code, exceptionTable := #[], attributes := #[] }
def k11m1 : Method := { name := "coderFromArrayLen", desc := "([BI)B", sig := { parameters := [(.array .byte), .int], returnType := some .byte }, accessFlags := 8, code := some k11c1 }
def k11c2 : Code := { maxStack := 5, maxLocals := 6, code := jdk_52_method_16_code, exceptionTable := #[], attributes := #[] }
def k11m2 : Method := { name := "compress", desc := "([CII)[B", sig := { parameters := [(.array .char), .int, .int], returnType := some (.array .byte) }, accessFlags := 9, code := some k11c2 }
def k11c3 : Code := { maxStack := 3, maxLocals := 7, code := jdk_52_method_21_code, exceptionTable := #[], attributes := #[] }
def k11m3 : Method := { name := "compress", desc := "([CI[BII)I", sig := { parameters := [(.array .char), .int, (.array .byte), .int, .int], returnType := some .int }, accessFlags := 9, code := some k11c3 }
/-- java/lang/StringUTF16 -/
def k11 : Class := { plain "java/lang/StringUTF16" (some 0) with
  accessFlags := 48
  interfaces := #[]
  cf := some (fileOf pool11 12 #[.nestMembers #[627, 629, 369]] #[{ accessFlags := 0, nameIndex := 9, descriptorIndex := 10, attributes := #[] }, { accessFlags := 8, nameIndex := 261, descriptorIndex := 262, attributes := #[] }, { accessFlags := 9, nameIndex := 117, descriptorIndex := 122, attributes := #[] }, { accessFlags := 9, nameIndex := 117, descriptorIndex := 118, attributes := #[] }] 48 6 #[] #[{ accessFlags := 26, nameIndex := 61, descriptorIndex := 62, attributes := #[] }, { accessFlags := 26, nameIndex := 65, descriptorIndex := 62, attributes := #[] }, { accessFlags := 24, nameIndex := 430, descriptorIndex := 62, attributes := #[] }, { accessFlags := 4120, nameIndex := 46, descriptorIndex := 47, attributes := #[] }])
  fields := #[{ name := "HI_BYTE_SHIFT", type := .int, accessFlags := 26, slot := 0, constantValue := 0 }, { name := "LO_BYTE_SHIFT", type := .int, accessFlags := 26, slot := 1, constantValue := 0 }, { name := "MAX_LENGTH", type := .int, accessFlags := 24, slot := 2, constantValue := 0 }, { name := "$assertionsDisabled", type := .boolean, accessFlags := 4120, slot := 3, constantValue := 0 }]
  methods := #[k11m0, k11m1, k11m2, k11m3]
  instanceTypes := #[]
  staticTypes := #[.int, .int, .int, .boolean]
  resolved := Array.replicate 635 none
  statics := none }

def pool12 : Array CpInfo := pool [(2, .class_ 4), (1, u "java/lang/Object"), (0, u "<init>"), (0, u "()V"), (17, .class_ 26), (1, u "jdk/internal/util/Preconditions"), (28, .class_ 56), (0, u "jdk/internal/util/Preconditions$4"), (57, .class_ 115), (0, u "jdk/internal/util/Preconditions$1"), (7, u "SIOOBE_FORMATTER"), (0, u "Ljava/util/function/BiFunction;"), (0, .class_ 126), (0, u "jdk/internal/util/Preconditions$2"), (3, u "AIOOBE_FORMATTER"), (0, .class_ 132), (0, u "jdk/internal/util/Preconditions$3"), (3, u "IOOBE_FORMATTER")] 57

def k12m0 : Method := { name := "<init>", desc := "()V", sig := { parameters := [], returnType := none }, accessFlags := 1, code := none }
/-- jdk/internal/util/Preconditions -/
def k12 : Class := { plain "jdk/internal/util/Preconditions" (some 0) with
  accessFlags := 33
  interfaces := #[]
  cf := some (fileOf pool12 24 #[.nestMembers #[55, 131, 125, 114]] #[{ accessFlags := 1, nameIndex := 5, descriptorIndex := 6, attributes := #[] }] 33 2 #[] #[{ accessFlags := 25, nameIndex := 123, descriptorIndex := 124, attributes := #[] }, { accessFlags := 25, nameIndex := 130, descriptorIndex := 124, attributes := #[] }, { accessFlags := 25, nameIndex := 136, descriptorIndex := 124, attributes := #[] }])
  fields := #[{ name := "SIOOBE_FORMATTER", type := (.object "java/util/function/BiFunction"), accessFlags := 25, slot := 0, constantValue := 0 }, { name := "AIOOBE_FORMATTER", type := (.object "java/util/function/BiFunction"), accessFlags := 25, slot := 1, constantValue := 0 }, { name := "IOOBE_FORMATTER", type := (.object "java/util/function/BiFunction"), accessFlags := 25, slot := 2, constantValue := 0 }]
  methods := #[k12m0]
  instanceTypes := #[]
  staticTypes := #[(.object "java/util/function/BiFunction"), (.object "java/util/function/BiFunction"), (.object "java/util/function/BiFunction")]
  resolved := Array.replicate 194 none
  statics := some 1 }

def pool13 : Array CpInfo := pool [(9, u "<init>"), (6, .class_ 18), (1, u "java/lang/Object"), (0, u "()V"), (1, .class_ 23), (1, u "jdk/internal/util/ArraysSupport"), (0, u "LOG2_ARRAY_LONG_INDEX_SCALE"), (0, u "I"), (2, u "U"), (0, u "Ljdk/internal/misc/Unsafe;"), (8, u "BIG_ENDIAN"), (0, u "Z"), (8, u "LOG2_BYTE_BIT_SIZE"), (4, u "LOG2_ARRAY_INT_INDEX_SCALE"), (54, u "JLA"), (0, u "Ljdk/internal/access/JavaLangAccess;"), (11, u "LOG2_ARRAY_BOOLEAN_INDEX_SCALE"), (9, u "LOG2_ARRAY_BYTE_INDEX_SCALE"), (5, u "LOG2_ARRAY_CHAR_INDEX_SCALE"), (5, u "LOG2_ARRAY_SHORT_INDEX_SCALE"), (18, u "LOG2_ARRAY_FLOAT_INDEX_SCALE"), (24, u "LOG2_ARRAY_DOUBLE_INDEX_SCALE"), (89, u "T_BOOLEAN"), (2, u "T_CHAR"), (1, u "T_FLOAT"), (1, u "T_DOUBLE"), (1, u "T_BYTE"), (1, u "T_SHORT"), (1, u "T_INT"), (1, u "T_LONG"), (1, u "SOFT_MAX_ARRAY_LENGTH")] 83

def k13m0 : Method := { name := "<init>", desc := "()V", sig := { parameters := [], returnType := none }, accessFlags := 2, code := none }
/-- jdk/internal/util/ArraysSupport -/
def k13 : Class := { plain "jdk/internal/util/ArraysSupport" (some 0) with
  accessFlags := 33
  interfaces := #[]
  cf := some (fileOf pool13 21 #[] #[{ accessFlags := 2, nameIndex := 9, descriptorIndex := 19, attributes := #[] }] 33 16 #[] #[{ accessFlags := 24, nameIndex := 28, descriptorIndex := 29, attributes := #[] }, { accessFlags := 26, nameIndex := 38, descriptorIndex := 39, attributes := #[] }, { accessFlags := 25, nameIndex := 121, descriptorIndex := 25, attributes := #[] }, { accessFlags := 25, nameIndex := 131, descriptorIndex := 25, attributes := #[] }, { accessFlags := 25, nameIndex := 137, descriptorIndex := 25, attributes := #[] }, { accessFlags := 25, nameIndex := 143, descriptorIndex := 25, attributes := #[] }, { accessFlags := 25, nameIndex := 53, descriptorIndex := 25, attributes := #[] }, { accessFlags := 25, nameIndex := 24, descriptorIndex := 25, attributes := #[] }, { accessFlags := 25, nameIndex := 162, descriptorIndex := 25, attributes := #[] }, { accessFlags := 25, nameIndex := 187, descriptorIndex := 25, attributes := #[] }, { accessFlags := 26, nameIndex := 48, descriptorIndex := 25, attributes := #[] }, { accessFlags := 25, nameIndex := 277, descriptorIndex := 25, attributes := #[] }, { accessFlags := 25, nameIndex := 280, descriptorIndex := 25, attributes := #[] }, { accessFlags := 25, nameIndex := 282, descriptorIndex := 25, attributes := #[] }, { accessFlags := 25, nameIndex := 284, descriptorIndex := 25, attributes := #[] }, { accessFlags := 25, nameIndex := 286, descriptorIndex := 25, attributes := #[] }, { accessFlags := 25, nameIndex := 288, descriptorIndex := 25, attributes := #[] }, { accessFlags := 25, nameIndex := 290, descriptorIndex := 25, attributes := #[] }, { accessFlags := 25, nameIndex := 292, descriptorIndex := 25, attributes := #[] }, { accessFlags := 26, nameIndex := 108, descriptorIndex := 109, attributes := #[] }, { accessFlags := 25, nameIndex := 294, descriptorIndex := 25, attributes := #[] }])
  fields := #[{ name := "U", type := (.object "jdk/internal/misc/Unsafe"), accessFlags := 24, slot := 0, constantValue := 0 }, { name := "BIG_ENDIAN", type := .boolean, accessFlags := 26, slot := 1, constantValue := 0 }, { name := "LOG2_ARRAY_BOOLEAN_INDEX_SCALE", type := .int, accessFlags := 25, slot := 2, constantValue := 0 }, { name := "LOG2_ARRAY_BYTE_INDEX_SCALE", type := .int, accessFlags := 25, slot := 3, constantValue := 0 }, { name := "LOG2_ARRAY_CHAR_INDEX_SCALE", type := .int, accessFlags := 25, slot := 4, constantValue := 0 }, { name := "LOG2_ARRAY_SHORT_INDEX_SCALE", type := .int, accessFlags := 25, slot := 5, constantValue := 0 }, { name := "LOG2_ARRAY_INT_INDEX_SCALE", type := .int, accessFlags := 25, slot := 6, constantValue := 0 }, { name := "LOG2_ARRAY_LONG_INDEX_SCALE", type := .int, accessFlags := 25, slot := 7, constantValue := 0 }, { name := "LOG2_ARRAY_FLOAT_INDEX_SCALE", type := .int, accessFlags := 25, slot := 8, constantValue := 0 }, { name := "LOG2_ARRAY_DOUBLE_INDEX_SCALE", type := .int, accessFlags := 25, slot := 9, constantValue := 0 }, { name := "LOG2_BYTE_BIT_SIZE", type := .int, accessFlags := 26, slot := 10, constantValue := 0 }, { name := "T_BOOLEAN", type := .int, accessFlags := 25, slot := 11, constantValue := 0 }, { name := "T_CHAR", type := .int, accessFlags := 25, slot := 12, constantValue := 0 }, { name := "T_FLOAT", type := .int, accessFlags := 25, slot := 13, constantValue := 0 }, { name := "T_DOUBLE", type := .int, accessFlags := 25, slot := 14, constantValue := 0 }, { name := "T_BYTE", type := .int, accessFlags := 25, slot := 15, constantValue := 0 }, { name := "T_SHORT", type := .int, accessFlags := 25, slot := 16, constantValue := 0 }, { name := "T_INT", type := .int, accessFlags := 25, slot := 17, constantValue := 0 }, { name := "T_LONG", type := .int, accessFlags := 25, slot := 18, constantValue := 0 }, { name := "JLA", type := (.object "jdk/internal/access/JavaLangAccess"), accessFlags := 26, slot := 19, constantValue := 0 }, { name := "SOFT_MAX_ARRAY_LENGTH", type := .int, accessFlags := 25, slot := 20, constantValue := 0 }]
  methods := #[k13m0]
  instanceTypes := #[]
  staticTypes := #[(.object "jdk/internal/misc/Unsafe"), .boolean, .int, .int, .int, .int, .int, .int, .int, .int, .int, .int, .int, .int, .int, .int, .int, .int, .int, (.object "jdk/internal/access/JavaLangAccess"), .int]
  resolved := Array.replicate 378 none
  statics := none }

def pool14 : Array CpInfo := pool [(1, u "java/lang/Cloneable"), (0, .class_ 1), (0, u "java/lang/Object"), (0, .class_ 3)] 3

/-- java/lang/Cloneable -/
def k14 : Class := { plain "java/lang/Cloneable" (some 0) with
  accessFlags := 1537
  interfaces := #[]
  cf := some (fileOf pool14 2 #[] #[] 1537 4 #[] #[])
  fields := #[]
  methods := #[]
  instanceTypes := #[]
  staticTypes := #[]
  resolved := Array.replicate 8 none
  statics := none }

/-- the primitive byte -/
def k15 : Class := { plain "byte" none with kind := .primitive 'B', accessFlags := 0x411 }
/-- [B -/
def k16 : Class := { plain "[B" (some 0) with kind := .array 15 .byte, interfaces := #[14, 4], accessFlags := 1041 }

/-- the primitive char -/
def k17 : Class := { plain "char" none with kind := .primitive 'C', accessFlags := 0x411 }
/-- [C -/
def k18 : Class := { plain "[C" (some 0) with kind := .array 17 .char, interfaces := #[14, 4], accessFlags := 1041 }

/-- the primitive int -/
def k19 : Class := { plain "int" none with kind := .primitive 'I', accessFlags := 0x411 }
/-- [I -/
def k20 : Class := { plain "[I" (some 0) with kind := .array 19 .int, interfaces := #[14, 4], accessFlags := 1041 }

def heap : Heap := #[{ cls := 9, slots := #[.long 0, .int 1, .null, .int 0, .null, .int 0, .int 0], vm := .statics 9 },
  { cls := 12, slots := #[.null, .null, .null], vm := .statics 12 }]
def classes : Array Class := #[k0, k1, k2, k3, k4, k5, k6, k7, k8, k9, k10, k11, k12, k13, k14, k15, k16, k17, k18, k19, k20]
def interned : List (Array UInt16 × Addr) := []
def slotsUsed : Nat := 10
def theMethod : MethodId := ⟨1, 3⟩
def args0 : Array Value := #[.int 1, .int 2, .int 3, .int 4, .int 5, .int 6]
def aboutOver (below : List Frame) : State where
  vm := { classes := classes, interned := interned.toArray }
  heap := heap
  slotsUsed := slotsUsed
  threads := #[{ frames := .invoking theMethod args0 :: below }]
def below0 : List Frame := [.native { method := ⟨0, 0⟩, args := #[] }]
def about1 : State := aboutOver below0
def p0 : Program := .bare "" "" ""
def e0 : Env := launch0.env 0 0 0
theorem w_frames : about1.frames = Frame.invoking theMethod args0 :: below0 := rfl
set_option maxRecDepth 65536 in
theorem w_args : argsFit about1.vm theMethod args0 = true := by decide +kernel
set_option maxRecDepth 65536 in
theorem w_heap : heapFits about1 = true := by decide +kernel
set_option maxRecDepth 65536 in
theorem w_runnable : about1.curStatus? = some .runnable := by decide +kernel
set_option maxRecDepth 65536 in
theorem w_alone : about1.alone = true := by decide +kernel
set_option maxRecDepth 65536 in
theorem w_named : about1.methodNamed? x = some theMethod := by decide +kernel
set_option maxRecDepth 65536 in
theorem w_hears : about1.hears theMethod below0 = true := by decide +kernel
set_option maxRecDepth 65536 in
theorem w_ripe : about1.ripe theMethod args0 below0 = true := by decide +kernel
theorem w_running : about1.status = .running := rfl
set_option maxRecDepth 65536 in
theorem w_room : about1.hasRoom e0.platform room_1 = true :=
  launch0.hasRoom_least _ room_1 (by decide +kernel) (by decide +kernel) (by decide +kernel) (by decide +kernel) (by decide +kernel) (by decide +kernel)
theorem allAtoms_all (ts : List Jvm.Cond) (a : Array Jvm.Value) (st : Jvm.State) : (allAtoms ts).before a st = ts.all (fun c => c.before a st) := by
  induction ts with
  | nil => rfl
  | cons c t ih =>
    show (Jvm.Cond.and c (allAtoms t)).before a st = _
    rw [Jvm.Cond.before_and, ih, List.all_cons]
def words1 : List Jvm.Cond := Jvm.Cond.code x code maxLocals ret :: tables_1
/-- a 'code' word, met by the world's own term for the bytes: nothing is compared byte by byte -/
theorem code_word {y : MethodName} {bytes : ByteArray} {mx : Nat} {rt : Option FieldType} {a : Array Value} {s : State} {m : MethodId} {meth : Method} {c : Code} (h1 : s.methodNamed? y = some m) (h2 : s.vm.method? m = some meth) (h3 : meth.code = some c) (h4 : c.code = bytes)
    (h5 : (c.maxLocals == mx && c.exceptionTable.isEmpty && decide (c.maxStack ≤ mostOperands) && decide (meth.sig.returnType = rt) && !meth.locks && decide (parseMethodDescriptor y.desc = some meth.sig)) = true) : (Jvm.Cond.code y bytes mx rt).before a s = true := by
  simp only [Bool.and_eq_true, beq_iff_eq, Bool.not_eq_true', decide_eq_true_eq] at h5
  obtain ⟨⟨⟨⟨⟨g1, g2⟩, g3⟩, g4⟩, g5⟩, g6⟩ := h5
  simp [Cond.before, Cond.holds, Cond.value, h1, h2, h3, h4, g1, g2, g3, g4, g5, g6]
def isCode : Jvm.Cond → Bool
  | .code _ _ _ _ => true
  | _ => false
theorem all_split {L : List Jvm.Cond} {P : Jvm.Cond → Bool} (h1 : L.all (fun c => isCode c || P c) = true) (h2 : ∀ c ∈ L.filter isCode, P c = true) : L.all P = true := by
  refine List.all_eq_true.mpr fun c hc => ?_
  have h := List.all_eq_true.mp h1 c hc
  rcases Bool.eq_false_or_eq_true (isCode c) with hi | hi
  · exact h2 c (List.mem_filter.mpr ⟨hc, hi⟩)
  · simpa [hi] using h
set_option maxRecDepth 65536 in
theorem w_c0 : (Jvm.Cond.code x code maxLocals ret).before args0 about1 = true := code_word (m := ⟨1, 3⟩) (meth := k1m3) (c := k1c3) (by decide +kernel) rfl rfl rfl (by decide +kernel)
set_option maxRecDepth 65536 in
theorem w_c1 : (Jvm.Cond.code ({ cls := "com/example/grantline/grantline/eval/ComparablePrincipalIsSameAsPinLaw", name := "mk", desc := "(ICC)Ljava/lang/String;" } : Jvm.MethodName) method_2_code (3 : Nat) (Option.some (Jvm.ClassFile.FieldType.object "java/lang/String"))).before args0 about1 = true := code_word (m := ⟨1, 1⟩) (meth := k1m1) (c := k1c1) (by decide +kernel) rfl rfl rfl (by decide +kernel)
set_option maxRecDepth 65536 in
theorem w_c2 : (Jvm.Cond.code ({ cls := "java/lang/String", name := "<init>", desc := "([C)V" } : Jvm.MethodName) jdk_42_method_3_code (2 : Nat) (Option.none : Option Jvm.ClassFile.FieldType)).before args0 about1 = true := code_word (m := ⟨9, 1⟩) (meth := k9m1) (c := k9c1) (by decide +kernel) rfl rfl rfl (by decide +kernel)
set_option maxRecDepth 65536 in
theorem w_c3 : (Jvm.Cond.code ({ cls := "java/lang/String", name := "<init>", desc := "([CIILjava/lang/Void;)V" } : Jvm.MethodName) jdk_42_method_149_code (6 : Nat) (Option.none : Option Jvm.ClassFile.FieldType)).before args0 about1 = true := code_word (m := ⟨9, 3⟩) (meth := k9m3) (c := k9c3) (by decide +kernel) rfl rfl rfl (by decide +kernel)
set_option maxRecDepth 65536 in
theorem w_c4 : (Jvm.Cond.code ({ cls := "java/lang/Object", name := "<init>", desc := "()V" } : Jvm.MethodName) object_method_1_code (1 : Nat) (Option.none : Option Jvm.ClassFile.FieldType)).before args0 about1 = true := code_word (m := ⟨0, 0⟩) (meth := k0m0) (c := k0c0) (by decide +kernel) rfl rfl rfl (by decide +kernel)
set_option maxRecDepth 65536 in
theorem w_c5 : (Jvm.Cond.code ({ cls := "com/example/grantline/grantline/eval/ComparablePrincipal", name := "<init>", desc := "(Ljava/lang/String;Ljava/lang/String;Ljava/lang/String;)V" } : Jvm.MethodName) prog_23_method_1_code (4 : Nat) (Option.none : Option Jvm.ClassFile.FieldType)).before args0 about1 = true := code_word (m := ⟨3, 0⟩) (meth := k3m0) (c := k3c0) (by decide +kernel) rfl rfl rfl (by decide +kernel)
set_option maxRecDepth 65536 in
theorem w_c6 : (Jvm.Cond.code ({ cls := "java/lang/Record", name := "<init>", desc := "()V" } : Jvm.MethodName) jdk_30_method_1_code (1 : Nat) (Option.none : Option Jvm.ClassFile.FieldType)).before args0 about1 = true := code_word (m := ⟨2, 0⟩) (meth := k2m0) (c := k2c0) (by decide +kernel) rfl rfl rfl (by decide +kernel)
set_option maxRecDepth 65536 in
theorem w_c7 : (Jvm.Cond.code ({ cls := "com/example/grantline/grantline/eval/ComparablePrincipalIsSameAsPinLaw", name := "same", desc := "(ICCICC)Z" } : Jvm.MethodName) method_3_code (6 : Nat) (Option.some Jvm.ClassFile.FieldType.boolean)).before args0 about1 = true := code_word (m := ⟨1, 2⟩) (meth := k1m2) (c := k1c2) (by decide +kernel) rfl rfl rfl (by decide +kernel)
set_option maxRecDepth 65536 in
theorem w_c8 : (Jvm.Cond.code ({ cls := "com/example/grantline/grantline/eval/ComparablePrincipal", name := "isSameAs", desc := "(Lcom/example/grantline/grantline/eval/ComparablePrincipal;)Z" } : Jvm.MethodName) prog_23_method_4_code (2 : Nat) (Option.some Jvm.ClassFile.FieldType.boolean)).before args0 about1 = true := code_word (m := ⟨3, 1⟩) (meth := k3m1) (c := k3c1) (by decide +kernel) rfl rfl rfl (by decide +kernel)
set_option maxRecDepth 65536 in
theorem w_c9 : (Jvm.Cond.code ({ cls := "java/lang/String", name := "equals", desc := "(Ljava/lang/Object;)Z" } : Jvm.MethodName) jdk_42_method_66_code (3 : Nat) (Option.some Jvm.ClassFile.FieldType.boolean)).before args0 about1 = true := code_word (m := ⟨9, 2⟩) (meth := k9m2) (c := k9c2) (by decide +kernel) rfl rfl rfl (by decide +kernel)
set_option maxRecDepth 65536 in
theorem w_c10 : (Jvm.Cond.code ({ cls := "java/lang/StringLatin1", name := "equals", desc := "([B[B)Z" } : Jvm.MethodName) jdk_43_method_13_code (3 : Nat) (Option.some Jvm.ClassFile.FieldType.boolean)).before args0 about1 = true := code_word (m := ⟨10, 1⟩) (meth := k10m1) (c := k10c1) (by decide +kernel) rfl rfl rfl (by decide +kernel)
set_option maxRecDepth 65536 in
theorem w_c11 : (Jvm.Cond.code ({ cls := "java/lang/StringUTF16", name := "compress", desc := "([CII)[B" } : Jvm.MethodName) jdk_52_method_16_code (6 : Nat) (Option.some (Jvm.ClassFile.FieldType.array Jvm.ClassFile.FieldType.byte))).before args0 about1 = true := code_word (m := ⟨11, 2⟩) (meth := k11m2) (c := k11c2) (by decide +kernel) rfl rfl rfl (by decide +kernel)
set_option maxRecDepth 65536 in
theorem w_c12 : (Jvm.Cond.code ({ cls := "java/lang/StringUTF16", name := "compress", desc := "([CI[BII)I" } : Jvm.MethodName) jdk_52_method_21_code (7 : Nat) (Option.some Jvm.ClassFile.FieldType.int)).before args0 about1 = true := code_word (m := ⟨11, 3⟩) (meth := k11m3) (c := k11c3) (by decide +kernel) rfl rfl rfl (by decide +kernel)
set_option maxRecDepth 65536 in
theorem w_c13 : (Jvm.Cond.code ({ cls := "java/lang/StringUTF16", name := "coderFromArrayLen", desc := "([BI)B" } : Jvm.MethodName) jdk_52_method_15_code (2 : Nat) (Option.some Jvm.ClassFile.FieldType.byte)).before args0 about1 = true := code_word (m := ⟨11, 1⟩) (meth := k11m1) (c := k11c1) (by decide +kernel) rfl rfl rfl (by decide +kernel)
def codes1 : List Jvm.Cond := [Jvm.Cond.code x code maxLocals ret, Jvm.Cond.code ({ cls := "com/example/grantline/grantline/eval/ComparablePrincipalIsSameAsPinLaw", name := "mk", desc := "(ICC)Ljava/lang/String;" } : Jvm.MethodName) method_2_code (3 : Nat) (Option.some (Jvm.ClassFile.FieldType.object "java/lang/String")), Jvm.Cond.code ({ cls := "java/lang/String", name := "<init>", desc := "([C)V" } : Jvm.MethodName) jdk_42_method_3_code (2 : Nat) (Option.none : Option Jvm.ClassFile.FieldType), Jvm.Cond.code ({ cls := "java/lang/String", name := "<init>", desc := "([CIILjava/lang/Void;)V" } : Jvm.MethodName) jdk_42_method_149_code (6 : Nat) (Option.none : Option Jvm.ClassFile.FieldType), Jvm.Cond.code ({ cls := "java/lang/Object", name := "<init>", desc := "()V" } : Jvm.MethodName) object_method_1_code (1 : Nat) (Option.none : Option Jvm.ClassFile.FieldType), Jvm.Cond.code ({ cls := "com/example/grantline/grantline/eval/ComparablePrincipal", name := "<init>", desc := "(Ljava/lang/String;Ljava/lang/String;Ljava/lang/String;)V" } : Jvm.MethodName) prog_23_method_1_code (4 : Nat) (Option.none : Option Jvm.ClassFile.FieldType), Jvm.Cond.code ({ cls := "java/lang/Record", name := "<init>", desc := "()V" } : Jvm.MethodName) jdk_30_method_1_code (1 : Nat) (Option.none : Option Jvm.ClassFile.FieldType), Jvm.Cond.code ({ cls := "com/example/grantline/grantline/eval/ComparablePrincipalIsSameAsPinLaw", name := "same", desc := "(ICCICC)Z" } : Jvm.MethodName) method_3_code (6 : Nat) (Option.some Jvm.ClassFile.FieldType.boolean), Jvm.Cond.code ({ cls := "com/example/grantline/grantline/eval/ComparablePrincipal", name := "isSameAs", desc := "(Lcom/example/grantline/grantline/eval/ComparablePrincipal;)Z" } : Jvm.MethodName) prog_23_method_4_code (2 : Nat) (Option.some Jvm.ClassFile.FieldType.boolean), Jvm.Cond.code ({ cls := "java/lang/String", name := "equals", desc := "(Ljava/lang/Object;)Z" } : Jvm.MethodName) jdk_42_method_66_code (3 : Nat) (Option.some Jvm.ClassFile.FieldType.boolean), Jvm.Cond.code ({ cls := "java/lang/StringLatin1", name := "equals", desc := "([B[B)Z" } : Jvm.MethodName) jdk_43_method_13_code (3 : Nat) (Option.some Jvm.ClassFile.FieldType.boolean), Jvm.Cond.code ({ cls := "java/lang/StringUTF16", name := "compress", desc := "([CII)[B" } : Jvm.MethodName) jdk_52_method_16_code (6 : Nat) (Option.some (Jvm.ClassFile.FieldType.array Jvm.ClassFile.FieldType.byte)), Jvm.Cond.code ({ cls := "java/lang/StringUTF16", name := "compress", desc := "([CI[BII)I" } : Jvm.MethodName) jdk_52_method_21_code (7 : Nat) (Option.some Jvm.ClassFile.FieldType.int), Jvm.Cond.code ({ cls := "java/lang/StringUTF16", name := "coderFromArrayLen", desc := "([BI)B" } : Jvm.MethodName) jdk_52_method_15_code (2 : Nat) (Option.some Jvm.ClassFile.FieldType.byte)]
set_option maxRecDepth 65536 in
theorem codes_eq : words1.filter isCode = codes1 := rfl
theorem w_codes : ∀ c ∈ words1.filter isCode, c.before args0 about1 = true := by
  rw [codes_eq]
  intro c hc
  simp only [codes1, List.mem_cons, List.not_mem_nil, or_false] at hc
  rcases hc with rfl | rfl | rfl | rfl | rfl | rfl | rfl | rfl | rfl | rfl | rfl | rfl | rfl | rfl
  · exact w_c0
  · exact w_c1
  · exact w_c2
  · exact w_c3
  · exact w_c4
  · exact w_c5
  · exact w_c6
  · exact w_c7
  · exact w_c8
  · exact w_c9
  · exact w_c10
  · exact w_c11
  · exact w_c12
  · exact w_c13
set_option maxRecDepth 65536 in
theorem w_t1 : (words1.take 24).all (fun c => isCode c || c.before args0 about1) = true := by decide +kernel
set_option maxRecDepth 65536 in
theorem w_t2 : ((words1.drop 24).take 24).all (fun c => isCode c || c.before args0 about1) = true := by decide +kernel
set_option maxRecDepth 65536 in
theorem w_t3 : (((words1.drop 24).drop 24).take 24).all (fun c => isCode c || c.before args0 about1) = true := by decide +kernel
set_option maxRecDepth 65536 in
theorem w_t4 : (((words1.drop 24).drop 24).drop 24).all (fun c => isCode c || c.before args0 about1) = true := by decide +kernel
theorem w_tables : (allAtoms (Jvm.Cond.code x code maxLocals ret :: tables_1)).before args0 about1 = true := by
  rw [allAtoms_all]
  show words1.all (fun c => c.before args0 about1) = true
  refine all_split ?_ w_codes
  rw [← List.take_append_drop 24 words1, List.all_append, w_t1, ← List.take_append_drop 24 (words1.drop 24), List.all_append, w_t2, ← List.take_append_drop 24 ((words1.drop 24).drop 24), List.all_append, w_t3, w_t4]
  rfl
set_option maxRecDepth 65536 in
theorem w_rest : rest_1_c.before args0 about1 = true := by decide +kernel
set_option maxRecDepth 65536 in
theorem w_case : (Jvm.Cond.and given_1 narrow_1).before args0 about1 = true := by decide +kernel
set_option maxRecDepth 65536 in
theorem w_consts : constsHeld consts_1 about1 := Jvm.Lit.constsHeldB_iff.mp (by decide +kernel)
theorem w_applies : (headSpec (Jvm.Cond.code x code maxLocals ret :: tables_1) room_1).applies x e0.platform about1 = true :=
  (Spec.applies_iff w_frames).mpr ⟨w_running, w_runnable, w_alone, w_named, w_hears, w_ripe, w_room, w_tables⟩
theorem atStart : AtStart classFile x code maxLocals ret World_1 tables_1 room_1 Calls_1 rest_1 Pre_1 launch0 p0 e0 about1 theMethod args0 below0 :=
  ⟨lists_1, trivial, launch0.admits_env _ _ _, launch0.least_env, fairChoices_fair.cas, fairChoices_fair.clock, w_frames, w_args, w_heap, w_applies, ⟨w_consts, trivial⟩, w_rest, w_case⟩
end start1
theorem witness_1 : WitnessClaimed_1 := ⟨start1.p0, start1.e0, start1.about1, start1.theMethod, start1.args0, start1.below0, start1.atStart⟩
end Jvm.Pilot.@@N@@
