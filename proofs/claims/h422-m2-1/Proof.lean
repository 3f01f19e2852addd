import JvmDerived
import JvmDerived.Pilot.@@N@@Statement
import JvmDerived.Pilot.@@N@@Code
set_option linter.unusedVariables false
set_option linter.unusedSimpArgs false
/- laws to paste: Road.backV, Road.eqW, Road.codOf (cut by pick.py; bodies as the Statement names them) -/
namespace Jvm.Pilot.@@N@@
namespace StrChars
open Jvm Sem ClassFile Op Lib Jvm.Stand Jvm.Free.XT Jvm.Free.ALB Jvm.Free.JM Jvm.Free
open Jvm.Lib.Cold (StaticIs)
/-- a char array whose places are chars -/
def Ch (a : Addr) (A : Cell) (U : State) : Prop := Arr .char a A U ∧ Typed .char A
theorem Ch.mv {a : Addr} {A : Cell} {U U' : State} (h : Ch a A U) (hal : U.vm.Alike U'.vm) (hh : U'.heap = U.heap) : Ch a A U' := ⟨h.1.mv hal hh, h.2⟩
theorem Ch.keep {a : Addr} {A : Cell} {U U' : State} (h : Ch a A U) (hal : U.vm.Alike U'.vm) (hk : U'.heap[a]? = some A) : Ch a A U' := ⟨h.1.keep hal hk, h.2⟩
/-- what place i of a char[]'s cell holds -/
def cv (A : Cell) (i : Nat) : Int32 := match A.slots[i]? with | some (.int x) => x | _ => 0
theorem Ch.get {a : Addr} {A : Cell} {U : State} (h : Ch a A U) {i : Nat} (hi : i < A.slots.size) : A.slots[i]? = some (.int (cv A i)) := by
  have e := Array.getElem?_eq_getElem hi
  have f := h.2 i _ e
  unfold cv; rw [e]
  generalize A.slots[i] = v at f
  cases v <;> simp [fits] at f ⊢
/-- the byte that i2b leaves of a char -/
def lo8 (x : Int32) : Int32 := x.toInt8.toInt32
theorem fits_lo8 (y : Int32) : fits .byte (.int (lo8 y)) = true := by
  have h1 := y.toInt8.le_toInt
  have h2 := y.toInt8.toInt_lt
  simp only [lo8, fits, Bool.and_eq_true, decide_eq_true_eq, Int32.le_iff_toInt_le, Int8.toInt_toInt32, show (-128 : Int32).toInt = -128 from by decide, show (127 : Int32).toInt = 127 from by decide]
  omega
/-- A' is A but that each place j of lo .. hi - 1 holds f j -/
def Laid (A A' : Cell) (lo hi : Nat) (f : Nat → Value) : Prop := A'.cls = A.cls ∧ A'.vm = A.vm ∧ A'.slots.size = A.slots.size ∧ ∀ i, A'.slots[i]? = if lo ≤ i ∧ i < hi then some (f i) else A.slots[i]?
theorem Laid.zero (A : Cell) (lo : Nat) (f : Nat → Value) : Laid A A lo (lo + 0) f := ⟨rfl, rfl, rfl, fun i => by rw [if_neg (by omega)]⟩
theorem Laid.step {A Ak : Cell} {lo k : Nat} {f : Nat → Value} {v : Value} (h : Laid A Ak lo k f) (hlo : lo ≤ k) (hk : k < Ak.slots.size) (hv : v = f k) : Laid A (Ak.setSlot k v) lo (k + 1) f := by
  refine ⟨h.1, h.2.1, by simpa [Cell.setSlot] using h.2.2.1, fun i => ?_⟩
  by_cases e : k = i
  · subst e; rw [Cell.slots_setSlot_self v hk, if_pos (by omega), hv]
  · rw [Cell.slots_setSlot_ne v e, h.2.2.2 i]
    by_cases q : lo ≤ i ∧ i < k
    · rw [if_pos q, if_pos (by omega)]
    · rw [if_neg q, if_neg (by omega)]
def U16 : String := "java/lang/StringUTF16"
namespace Cmp5
def yN : MethodName := ⟨"java/lang/StringUTF16", "compress", "([CI[BII)I"⟩
abbrev yB : ByteArray := jdk_52_method_21_code
theorem d0 : decode yB 0 = .ok (.iconst 0, 1) := by decide +kernel
theorem d1 : decode yB 1 = .ok (.istore 5, 2) := by decide +kernel
theorem d3 : decode yB 3 = .ok (.iload 5, 2) := by decide +kernel
theorem d5 : decode yB 5 = .ok (.iload 4, 2) := by decide +kernel
theorem d7 : decode yB 7 = .ok (.if_icmp (.ge) 37, 3) := by decide +kernel
theorem d10 : decode yB 10 = .ok (.aload_n 0, 1) := by decide +kernel
theorem d11 : decode yB 11 = .ok (.iload_n 1, 1) := by decide +kernel
theorem d12 : decode yB 12 = .ok (.caload, 1) := by decide +kernel
theorem d13 : decode yB 13 = .ok (.istore 6, 2) := by decide +kernel
theorem d15 : decode yB 15 = .ok (.iload 6, 2) := by decide +kernel
theorem d17 : decode yB 17 = .ok (.sipush 255, 3) := by decide +kernel
theorem d20 : decode yB 20 = .ok (.if_icmp (.le) 6, 3) := by decide +kernel
theorem d26 : decode yB 26 = .ok (.aload_n 2, 1) := by decide +kernel
theorem d27 : decode yB 27 = .ok (.iload_n 3, 1) := by decide +kernel
theorem d28 : decode yB 28 = .ok (.iload 6, 2) := by decide +kernel
theorem d30 : decode yB 30 = .ok (.i2b, 1) := by decide +kernel
theorem d31 : decode yB 31 = .ok (.bastore, 1) := by decide +kernel
theorem d32 : decode yB 32 = .ok (.iinc 1 1, 3) := by decide +kernel
theorem d35 : decode yB 35 = .ok (.iinc 3 1, 3) := by decide +kernel
theorem d38 : decode yB 38 = .ok (.iinc 5 1, 3) := by decide +kernel
theorem d41 : decode yB 41 = .ok (.goto (-38), 3) := by decide +kernel
theorem d44 : decode yB 44 = .ok (.iload 4, 2) := by decide +kernel
theorem d46 : decode yB 46 = .ok (.ireturn, 1) := by decide +kernel
def site : List Cond := []
def tab : Cond := tabOf yN yB 7 (some .int) site
def P (b : Addr) (A : Cell) (d : Addr) (B : Cell) (o q len : Nat) (args : Array Value) (s : State) : Prop := args = #[.ref b, .int (Int32.ofNat o), .ref d, .int (Int32.ofNat q), .int (Int32.ofNat len)] ∧ Ch b A s ∧ Arr .byte d B s ∧ b ≠ d ∧ o + len ≤ A.slots.size ∧ q + len ≤ B.slots.size ∧ ∀ i, i < len → ¬ 255 < cv A (o + i)
def E (b : Addr) (A : Cell) (d : Addr) (B : Cell) (o q len : Nat) (r : Option Value) (s u : State) : Prop := r = some (.int (Int32.ofNat len)) ∧ ∃ B', Put d B' s u ∧ Laid B B' q (q + len) (fun j => Value.int (lo8 (cv A (o + (j - q)))))
/-- no char of the range above 255: len; the places written hold each char's low byte -/
theorem law (l : Launch) (b : Addr) (A : Cell) (d : Addr) (B : Cell) (o q len : Nat) : Law l yN 5 5 0 0 yB 7 (some .int) site (P b A d B o q len) (E b A d B o q len) (copyLocs d q len) 0 0 := by
  refine Law.of_walk (plainFor_of_name (by decide +kernel)) (by decide +kernel) (by decide +kernel) (by decide) (fun _ _ h => by rw [h.1]; rfl) (fun _ U U' hal hh h => ⟨h.1, h.2.1.mv hal hh, h.2.2.1.mv hal hh, h.2.2.2⟩) (fun r U U' V V' h1 hal h2 h => ⟨h.1, h.2.elim fun B' q => ⟨B', q.1.mv h1 h2, q.2⟩⟩) ?_
  intro p e s m args below meth c s₁ X0 hexec hbytes hml hret hlk hnm hown hh0 W hP
  obtain ⟨rfl, hA, hB, hne, l1, l2, hp⟩ := hP
  have c1 : Steps p.tables e below (s₁.setTop (entryFrame m #[.ref b, .int (Int32.ofNat o), .ref d, .int (Int32.ofNat q), .int (Int32.ofNat len)] 7)) (s₁.setTop (mkF m 0 #[.val (.ref b), .val (.int (Int32.ofNat o)), .val (.ref d), .val (.int (Int32.ofNat q)), .val (.int (Int32.ofNat len)), .unset, .unset] [])) := entry rfl
  have hA0 := hA.1.mv X0.warmed.alike hh0
  have hB0 := hB.mv X0.warmed.alike hh0
  have a31 := hA.1.2.2.2
  have c2 : Steps p.tables e below (s₁.setTop (entryFrame m #[.ref b, .int (Int32.ofNat o), .ref d, .int (Int32.ofNat q), .int (Int32.ofNat len)] 7)) (s₁.setTop (mkF m 3 #[.val (.ref b), .val (.int (Int32.ofNat o)), .val (.ref d), .val (.int (Int32.ofNat q)), .val (.int (Int32.ofNat len)), .val (.int 0), .unset] [])) := c1.trans (by
    refine iconstV X0.here hexec rfl 0 (hb hbytes d0) (by decide) ?_
    refine XS.istore X0.here hexec rfl (hb hbytes d1) rfl rfl ?_
    exact Steps.refl _)
  have loop : ∀ (r i : Nat), i + r = len → ∀ (z : Slot), (z = .unset ∨ ∃ w, z = .val w ∧ w.category = 1) → ∀ (Tl : State) (Bk : Cell), Stand p l e { frames := 0, locals := 0, cells := 0, slots := 0 } s m #[.ref b, .int (Int32.ofNat o), .ref d, .int (Int32.ofNat q), .int (Int32.ofNat len)] below meth c Tl ([] ++ copyLocs d q i) 0 0 → Put d Bk s₁ Tl → Laid B Bk q (q + i) (fun j => Value.int (lo8 (cv A (o + (j - q))))) →
      Steps p.tables e below (s₁.setTop (entryFrame m #[.ref b, .int (Int32.ofNat o), .ref d, .int (Int32.ofNat q), .int (Int32.ofNat len)] 7)) (Tl.setTop (mkF m 3 #[.val (.ref b), .val (.int (Int32.ofNat (o + i))), .val (.ref d), .val (.int (Int32.ofNat (q + i))), .val (.int (Int32.ofNat len)), .val (.int (Int32.ofNat i)), z] [])) → ∃ (T' : State) (B' : Cell) (z' : Slot), Stand p l e { frames := 0, locals := 0, cells := 0, slots := 0 } s m #[.ref b, .int (Int32.ofNat o), .ref d, .int (Int32.ofNat q), .int (Int32.ofNat len)] below meth c T' ([] ++ copyLocs d q len) 0 0 ∧ Put d B' s₁ T' ∧ Laid B B' q (q + len) (fun j => Value.int (lo8 (cv A (o + (j - q))))) ∧
      Steps p.tables e below (s₁.setTop (entryFrame m #[.ref b, .int (Int32.ofNat o), .ref d, .int (Int32.ofNat q), .int (Int32.ofNat len)] 7)) (T'.setTop (mkF m 3 #[.val (.ref b), .val (.int (Int32.ofNat (o + len))), .val (.ref d), .val (.int (Int32.ofNat (q + len))), .val (.int (Int32.ofNat len)), .val (.int (Int32.ofNat len)), z'] [])) := by
    intro r
    induction r with
    | zero =>
      intro i hi z hz Tl Bk Xl pl fl cl
      have hil : i = len := by omega
      rw [hil] at Xl fl cl
      exact ⟨Tl, Bk, z, Xl, pl, fl, cl⟩
    | succ r ih =>
      intro i hi z hz Tl Bk Xl pl fl cl
      have all := X0.warmed.alike.symm.trans Xl.warmed.alike
      have hAl := hA0.keep all (pl.other hne hA0.1)
      have hBk := hB0.like all pl.1 fl.1 fl.2.1 fl.2.2.1
      have hlt : q + i < Bk.slots.size := by rw [fl.2.2.1]; omega
      have c3 : Steps p.tables e below (s₁.setTop (entryFrame m #[.ref b, .int (Int32.ofNat o), .ref d, .int (Int32.ofNat q), .int (Int32.ofNat len)] 7)) (Tl.setTop (mkF m 12 #[.val (.ref b), .val (.int (Int32.ofNat (o + i))), .val (.ref d), .val (.int (Int32.ofNat (q + i))), .val (.int (Int32.ofNat len)), .val (.int (Int32.ofNat i)), z] [.int (Int32.ofNat (o + i)), .ref b])) := cl.trans (by
        refine XS.iload Xl.here hexec rfl (hb hbytes d3) rfl ?_
        refine XS.iload Xl.here hexec rfl (hb hbytes d5) rfl ?_
        refine XS.icmpNo Xl.here hexec rfl (hb hbytes d7) rfl (ii_ge_f (lt32 (by omega) (by omega))) ?_
        refine XS.aloadN Xl.here hexec rfl (hb hbytes d10) rfl rfl ?_
        refine XS.iloadN Xl.here hexec rfl (hb hbytes d11) rfl ?_
        exact Steps.refl _)
      have c4 : Steps p.tables e below (s₁.setTop (entryFrame m #[.ref b, .int (Int32.ofNat o), .ref d, .int (Int32.ofNat q), .int (Int32.ofNat len)] 7)) (Tl.setTop (mkF m 13 #[.val (.ref b), .val (.int (Int32.ofNat (o + i))), .val (.ref d), .val (.int (Int32.ofNat (q + i))), .val (.int (Int32.ofNat len)), .val (.int (Int32.ofNat i)), z] [.int (cv A (o + i))])) := c3.trans (by
        refine Xl.aget hexec hAl rfl (hA.get (i := o + i) (by omega)) rfl rfl (hb hbytes d12) ?_
        exact Steps.refl _)
      have c5 : Steps p.tables e below (s₁.setTop (entryFrame m #[.ref b, .int (Int32.ofNat o), .ref d, .int (Int32.ofNat q), .int (Int32.ofNat len)] 7)) (Tl.setTop (mkF m 15 #[.val (.ref b), .val (.int (Int32.ofNat (o + i))), .val (.ref d), .val (.int (Int32.ofNat (q + i))), .val (.int (Int32.ofNat len)), .val (.int (Int32.ofNat i)), .val (.int (cv A (o + i)))] [])) := c4.trans (by
        refine XS.istoreS Xl.here hexec rfl (hb hbytes d13) rfl rfl hz ?_
        exact Steps.refl _)
      have c6 : Steps p.tables e below (s₁.setTop (entryFrame m #[.ref b, .int (Int32.ofNat o), .ref d, .int (Int32.ofNat q), .int (Int32.ofNat len)] 7)) (Tl.setTop (mkF m 31 #[.val (.ref b), .val (.int (Int32.ofNat (o + i))), .val (.ref d), .val (.int (Int32.ofNat (q + i))), .val (.int (Int32.ofNat len)), .val (.int (Int32.ofNat i)), .val (.int (cv A (o + i)))] [.int (lo8 (cv A (o + i))), .int (Int32.ofNat (q + i)), .ref d])) := c5.trans (by
        refine XS.iload Xl.here hexec rfl (hb hbytes d15) rfl ?_
        refine sipushV Xl.here hexec rfl 255 (hb hbytes d17) (by decide) ?_
        refine XS.icmpYes Xl.here hexec rfl (pc0 := 20) rfl (hb hbytes d20) rfl (ii_le_t (hp i (by omega))) (by decide) rfl ?_
        refine XS.aloadN Xl.here hexec rfl (hb hbytes d26) rfl rfl ?_
        refine XS.iloadN Xl.here hexec rfl (hb hbytes d27) rfl ?_
        refine XS.iload Xl.here hexec rfl (hb hbytes d28) rfl ?_
        refine i2b Xl.here hexec rfl (hb hbytes d30) rfl ?_
        exact Steps.refl _)
      obtain ⟨T7, X7, p7, st7⟩ := Xl.aput hexec hBk rfl hlt rfl (fits_lo8 (cv A (o + i))) (g := (mkF m 31 #[.val (.ref b), .val (.int (Int32.ofNat (o + i))), .val (.ref d), .val (.int (Int32.ofNat (q + i))), .val (.int (Int32.ofNat len)), .val (.int (Int32.ofNat i)), .val (.int (cv A (o + i)))] [.int (lo8 (cv A (o + i))), .int (Int32.ofNat (q + i)), .ref d])) rfl (rest := []) rfl (hb hbytes d31)
      have c8 : Steps p.tables e below (s₁.setTop (entryFrame m #[.ref b, .int (Int32.ofNat o), .ref d, .int (Int32.ofNat q), .int (Int32.ofNat len)] 7)) (T7.setTop (mkF m 32 #[.val (.ref b), .val (.int (Int32.ofNat (o + i))), .val (.ref d), .val (.int (Int32.ofNat (q + i))), .val (.int (Int32.ofNat len)), .val (.int (Int32.ofNat i)), .val (.int (cv A (o + i)))] [])) := c6.trans (st7 _ (Steps.refl _))
      have c9 : Steps p.tables e below (s₁.setTop (entryFrame m #[.ref b, .int (Int32.ofNat o), .ref d, .int (Int32.ofNat q), .int (Int32.ofNat len)] 7)) (T7.setTop (mkF m 3 #[.val (.ref b), .val (.int (Int32.ofNat (o + i) + 1)), .val (.ref d), .val (.int (Int32.ofNat (q + i) + 1)), .val (.int (Int32.ofNat len)), .val (.int (Int32.ofNat i + 1)), .val (.int (cv A (o + i)))] [])) := c8.trans (by
        refine iincV X7.here hexec rfl 1 (hb hbytes d32) (by decide) rfl rfl ?_
        refine iincV X7.here hexec rfl 1 (hb hbytes d35) (by decide) rfl rfl ?_
        refine iincV X7.here hexec rfl 1 (hb hbytes d38) (by decide) rfl rfl ?_
        refine XS.goto X7.here hexec rfl (pc0 := 41) rfl (hb hbytes d41) (by decide) rfl ?_
        exact Steps.refl _)
      have c10 : Steps p.tables e below (s₁.setTop (entryFrame m #[.ref b, .int (Int32.ofNat o), .ref d, .int (Int32.ofNat q), .int (Int32.ofNat len)] 7)) (T7.setTop (mkF m 3 #[.val (.ref b), .val (.int (Int32.ofNat (o + (i + 1)))), .val (.ref d), .val (.int (Int32.ofNat (q + (i + 1)))), .val (.int (Int32.ofNat len)), .val (.int (Int32.ofNat (i + 1))), .val (.int (cv A (o + i)))] [])) := by
        have := c9
        rw [succ32, succ32, succ32] at this
        exact this
      exact ih (i + 1) (by omega) _ (Or.inr ⟨_, rfl, rfl⟩) T7 _ (by rw [copyLocs_step, ← List.append_assoc]; exact X7) (pl.trans p7) (fl.step (by omega) hlt (by simp)) c10
  obtain ⟨T9, B9, z9, X9, p9, f9, g9⟩ := loop len 0 (by omega) .unset (Or.inl rfl) s₁ B (by simpa [copyLocs] using X0) ⟨hB0.1, fun _ _ => rfl, rfl⟩ (Laid.zero _ _ _) c2
  have c11 : Steps p.tables e below (s₁.setTop (entryFrame m #[.ref b, .int (Int32.ofNat o), .ref d, .int (Int32.ofNat q), .int (Int32.ofNat len)] 7)) (T9.setTop (mkF m 46 #[.val (.ref b), .val (.int (Int32.ofNat (o + len))), .val (.ref d), .val (.int (Int32.ofNat (q + len))), .val (.int (Int32.ofNat len)), .val (.int (Int32.ofNat len)), z9] [.int (Int32.ofNat len)])) := g9.trans (by
    refine XS.iload X9.here hexec rfl (hb hbytes d3) rfl ?_
    refine XS.iload X9.here hexec rfl (hb hbytes d5) rfl ?_
    refine XS.icmpYes X9.here hexec rfl (pc0 := 7) rfl (hb hbytes d7) rfl (ii_ge_t (nlt32 (by omega) (Nat.le_refl _))) (by decide) rfl ?_
    refine XS.iload X9.here hexec rfl (hb hbytes d44) rfl ?_
    exact Steps.refl _)
  exact ⟨T9, some (.int (Int32.ofNat len)), _, _, _, X9, by simp, rfl, rfl, (fun h => by cases h), ⟨rfl, B9, p9.from hh0, f9⟩, fun fs hl => c11.trans (X9.ireturnOut hexec hret rfl (Or.inl rfl) (hb hbytes d46) hl)⟩
end Cmp5
namespace Cmp3
def yN : MethodName := ⟨"java/lang/StringUTF16", "compress", "([CII)[B"⟩
abbrev yB : ByteArray := jdk_52_method_16_code
theorem d0 : decode yB 0 = .ok (.iload_n 2, 1) := by decide +kernel
theorem d1 : decode yB 1 = .ok (.newarray .byte, 2) := by decide +kernel
theorem d3 : decode yB 3 = .ok (.astore_n 3, 1) := by decide +kernel
theorem d4 : decode yB 4 = .ok (.aload_n 0, 1) := by decide +kernel
theorem d5 : decode yB 5 = .ok (.iload_n 1, 1) := by decide +kernel
theorem d6 : decode yB 6 = .ok (.aload_n 3, 1) := by decide +kernel
theorem d7 : decode yB 7 = .ok (.iconst 0, 1) := by decide +kernel
theorem d8 : decode yB 8 = .ok (.iload_n 2, 1) := by decide +kernel
theorem d9 : decode yB 9 = .ok (.invokestatic 115, 3) := by decide +kernel
theorem d12 : decode yB 12 = .ok (.istore 4, 2) := by decide +kernel
theorem d14 : decode yB 14 = .ok (.iload 4, 2) := by decide +kernel
theorem d16 : decode yB 16 = .ok (.iload_n 2, 1) := by decide +kernel
theorem d17 : decode yB 17 = .ok (.if_icmp (.eq) 40, 3) := by decide +kernel
theorem d57 : decode yB 57 = .ok (.aload_n 3, 1) := by decide +kernel
theorem d58 : decode yB 58 = .ok (.areturn, 1) := by decide +kernel
def site : List Cond := [.arrayClass .byte, Cmp5.tab] ++ staticW U16 115 Cmp5.yN
def tab : Cond := tabOf yN yB 6 (some (.array .byte)) site
def P (b : Addr) (A : Cell) (o len : Nat) (args : Array Value) (s : State) : Prop := args = #[.ref b, .int (Int32.ofNat o), .int (Int32.ofNat len)] ∧ Ch b A s ∧ o + len ≤ A.slots.size ∧ len ≤ 536870912 ∧ ∀ i, i < len → ¬ 255 < cv A (o + i)
def E (b : Addr) (A : Cell) (o len : Nat) (r : Option Value) (s u : State) : Prop := NewArr .byte "[B" len (fun j => .int (lo8 (cv A (o + j)))) r s u ∧ u.heap.size = s.heap.size + 1
/-- no char of the range above 255: a new byte[] of their low bytes -/
theorem law (l : Launch) (b : Addr) (A : Cell) (o len : Nat) : Law l yN 3 3 1 18 yB 6 (some (.array .byte)) site (P b A o len) (E b A o len) [] 1 len := by
  refine Law.of_walk (plainFor_of_name (by decide +kernel)) (by decide +kernel) (by decide +kernel) (by decide) (fun _ _ h => by rw [h.1]; rfl) (fun _ U U' hal hh h => ⟨h.1, h.2.1.mv hal hh, h.2.2⟩) (fun r U U' V V' h1 hal h2 h => ⟨NewArr.mv r U U' V V' h1 hal h2 h.1, by rw [h1, h2]; exact h.2⟩) ?_
  intro p e s m args below meth c s₁ X0 hexec hbytes hml hret hlk hnm hown hh0 W hP
  obtain ⟨rfl, hA, l1, l2, hp⟩ := hP
  have a31 := hA.1.2.2.2
  have c1 : Steps p.tables e below (s₁.setTop (entryFrame m #[.ref b, .int (Int32.ofNat o), .int (Int32.ofNat len)] 6)) (s₁.setTop (mkF m 0 #[.val (.ref b), .val (.int (Int32.ofNat o)), .val (.int (Int32.ofNat len)), .unset, .unset, .unset] [])) := entry rfl
  have c2 : Steps p.tables e below (s₁.setTop (entryFrame m #[.ref b, .int (Int32.ofNat o), .int (Int32.ofNat len)] 6)) (s₁.setTop (mkF m 1 #[.val (.ref b), .val (.int (Int32.ofNat o)), .val (.int (Int32.ofNat len)), .unset, .unset, .unset] [.int (Int32.ofNat len)])) := c1.trans (by
    refine XS.iloadN X0.here hexec rfl (hb hbytes d0) rfl ?_
    exact Steps.refl _)
  obtain ⟨T3, B3, X3, ba3, bs3, bv3, bh3, bf3, st3⟩ := X0.anew hexec (atype := .byte) (wk W (.arrayClass .byte)) rfl (by show len * 1 ≤ _; omega) (by omega) (g := (mkF m 1 #[.val (.ref b), .val (.int (Int32.ofNat o)), .val (.int (Int32.ofNat len)), .unset, .unset, .unset] [.int (Int32.ofNat len)])) rfl (hb hbytes d1) (rest := []) rfl (Nat.le_refl _) (by show 0 + len ≤ len; omega)
  rw [hh0] at ba3 st3
  have kp3 : XT.Kept s T3 := (XT.Kept.of_eq hh0).push bh3
  have hA3 := hA.keep X3.warmed.alike (kp3 _ _ hA.1.1)
  have hne : b ≠ s.heap.size := hA.1.ne
  have c4 : Steps p.tables e below (s₁.setTop (entryFrame m #[.ref b, .int (Int32.ofNat o), .int (Int32.ofNat len)] 6)) (T3.setTop (mkF m 3 #[.val (.ref b), .val (.int (Int32.ofNat o)), .val (.int (Int32.ofNat len)), .unset, .unset, .unset] [.ref s.heap.size])) := c2.trans (st3 _ (Steps.refl _))
  have c5 : Steps p.tables e below (s₁.setTop (entryFrame m #[.ref b, .int (Int32.ofNat o), .int (Int32.ofNat len)] 6)) (T3.setTop (mkF m 9 #[.val (.ref b), .val (.int (Int32.ofNat o)), .val (.int (Int32.ofNat len)), .val (.ref s.heap.size), .unset, .unset] [.int (Int32.ofNat len), .int 0, .ref s.heap.size, .int (Int32.ofNat o), .ref b])) := c4.trans (by
    refine XS.astoreN X3.here hexec rfl (hb hbytes d3) rfl rfl rfl ?_
    refine XS.aloadN X3.here hexec rfl (hb hbytes d4) rfl rfl ?_
    refine XS.iloadN X3.here hexec rfl (hb hbytes d5) rfl ?_
    refine XS.aloadN X3.here hexec rfl (hb hbytes d6) rfl rfl ?_
    refine iconstV X3.here hexec rfl 0 (hb hbytes d7) (by decide) ?_
    refine XS.iloadN X3.here hexec rfl (hb hbytes d8) rfl ?_
    exact Steps.refl _)
  obtain ⟨v6, T6, X6, E6, g6⟩ := X3.callS hexec (Cmp5.law l b A s.heap.size B3 o 0 len) hown (wks W (staticW U16 115 Cmp5.yN)) (wk W Cmp5.tab) (W := 0) (Nat.le_of_ble_eq_true rfl) (Nat.le_of_ble_eq_true rfl) (Nat.le_refl _) (by show 0 + len + 0 ≤ len; omega) (g := (mkF m 9 #[.val (.ref b), .val (.int (Int32.ofNat o)), .val (.int (Int32.ofNat len)), .val (.ref s.heap.size), .unset, .unset] [.int (Int32.ofNat len), .int (Int32.ofNat 0), .ref s.heap.size, .int (Int32.ofNat o), .ref b])) rfl (by rw [hml]; rfl) c5 (argsL := [.ref b, .int (Int32.ofNat o), .ref s.heap.size, .int (Int32.ofNat 0), .int (Int32.ofNat len)]) (rest := []) rfl rfl (by show 2 * 0 + 0 ≤ _; decide) (hb hbytes d9) (⟨rfl, hA3, ba3, hne, l1, by rw [bs3]; simp, hp⟩)
  obtain ⟨rfl, B6, p6, f6⟩ := E6
  have c7 : Steps p.tables e below (s₁.setTop (entryFrame m #[.ref b, .int (Int32.ofNat o), .int (Int32.ofNat len)] 6)) (T6.setTop (mkF m 12 #[.val (.ref b), .val (.int (Int32.ofNat o)), .val (.int (Int32.ofNat len)), .val (.ref s.heap.size), .unset, .unset] [.int (Int32.ofNat len)])) := g6
  have c8 : Steps p.tables e below (s₁.setTop (entryFrame m #[.ref b, .int (Int32.ofNat o), .int (Int32.ofNat len)] 6)) (T6.setTop (mkF m 58 #[.val (.ref b), .val (.int (Int32.ofNat o)), .val (.int (Int32.ofNat len)), .val (.ref s.heap.size), .val (.int (Int32.ofNat len)), .unset] [.ref s.heap.size])) := c7.trans (by
    refine XS.istore X6.here hexec rfl (hb hbytes d12) rfl rfl ?_
    refine XS.iload X6.here hexec rfl (hb hbytes d14) rfl ?_
    refine XS.iloadN X6.here hexec rfl (hb hbytes d16) rfl ?_
    refine XS.icmpYes X6.here hexec rfl (pc0 := 17) rfl (hb hbytes d17) rfl (ii_eq_t rfl) (by decide) rfl ?_
    refine XS.aloadN X6.here hexec rfl (hb hbytes d57) rfl rfl ?_
    exact Steps.refl _)
  have X8 := X6.wide (L' := []) (cells' := 1) (slots' := len) (fun x hx hlt => by
    simp only [List.nil_append, copyLocs, List.mem_map, List.mem_range] at hx
    obtain ⟨i, -, rfl⟩ := hx
    exact absurd hlt (Nat.lt_irrefl _)) (Nat.le_refl _) (by omega)
  exact ⟨T6, some (.ref s.heap.size), _, _, _, X8, rfl, rfl, rfl, (fun h => by cases h), ⟨⟨rfl, B6, ba3.like (X3.warmed.alike.symm.trans X6.warmed.alike) p6.1 f6.1 f6.2.1 f6.2.2.1, f6.2.1.trans bv3, by rw [X6.warmed.alike.findClass, f6.1]; exact bf3, by rw [f6.2.2.1, bs3]; simp, fun j hj => by rw [f6.2.2.2 j, if_pos (by omega)]; rfl, kp3.put p6 (Nat.le_refl _)⟩, by rw [p6.2.2, bh3, hh0]; simp⟩, fun fs hl => c8.trans (X8.areturnOut hexec rfl hret rfl (hb hbytes d58) hl)⟩
end Cmp3
namespace CodL
def yN : MethodName := ⟨"java/lang/StringUTF16", "coderFromArrayLen", "([BI)B"⟩
abbrev yB : ByteArray := jdk_52_method_15_code
theorem d0 : decode yB 0 = .ok (.iload_n 1, 1) := by decide +kernel
theorem d1 : decode yB 1 = .ok (.aload_n 0, 1) := by decide +kernel
theorem d2 : decode yB 2 = .ok (.arraylength, 1) := by decide +kernel
theorem d3 : decode yB 3 = .ok (.isub, 1) := by decide +kernel
theorem d4 : decode yB 4 = .ok (.bipush 31, 2) := by decide +kernel
theorem d6 : decode yB 6 = .ok (.iushr, 1) := by decide +kernel
theorem d7 : decode yB 7 = .ok (.i2b, 1) := by decide +kernel
theorem d8 : decode yB 8 = .ok (.ireturn, 1) := by decide +kernel
def site : List Cond := []
def tab : Cond := tabOf yN yB 2 (some .byte) site
def P (d : Addr) (B : Cell) (args : Array Value) (s : State) : Prop := args = #[.ref d, .int (Int32.ofNat B.slots.size)] ∧ Arr .byte d B s
def E (r : Option Value) (s u : State) : Prop := XT.PureE (some (.int 0)) r s u
/-- an array as long as the number of chars: LATIN1 -/
theorem law (l : Launch) (d : Addr) (B : Cell) : Law l yN 2 2 0 0 yB 2 (some .byte) site (P d B) E [] 0 0 := by
  refine Law.of_walk (plainFor_of_name (by decide +kernel)) (by decide +kernel) (by decide +kernel) (by decide) (fun _ _ h => by rw [h.1]; rfl) (fun _ U U' hal hh h => ⟨h.1, h.2.mv hal hh⟩) (fun r U U' V V' h1 hal h2 h => XT.PureE.mv r U U' V V' h1 hal h2 h) ?_
  intro p e s m args below meth c s₁ X0 hexec hbytes hml hret hlk hnm hown hh0 W hP
  obtain ⟨rfl, hB⟩ := hP
  have hB0 := hB.mv X0.warmed.alike hh0
  have c1 : Steps p.tables e below (s₁.setTop (entryFrame m #[.ref d, .int (Int32.ofNat B.slots.size)] 2)) (s₁.setTop (mkF m 0 #[.val (.ref d), .val (.int (Int32.ofNat B.slots.size))] [])) := entry rfl
  have c2 : Steps p.tables e below (s₁.setTop (entryFrame m #[.ref d, .int (Int32.ofNat B.slots.size)] 2)) (s₁.setTop (mkF m 2 #[.val (.ref d), .val (.int (Int32.ofNat B.slots.size))] [.ref d, .int (Int32.ofNat B.slots.size)])) := c1.trans (by
    refine XS.iloadN X0.here hexec rfl (hb hbytes d0) rfl ?_
    refine XS.aloadN X0.here hexec rfl (hb hbytes d1) rfl rfl ?_
    exact Steps.refl _)
  have c3 : Steps p.tables e below (s₁.setTop (entryFrame m #[.ref d, .int (Int32.ofNat B.slots.size)] 2)) (s₁.setTop (mkF m 8 #[.val (.ref d), .val (.int (Int32.ofNat B.slots.size))] [.int (lo8 (ushr (Int32.ofNat B.slots.size - Int32.ofNat B.slots.size) 31))])) := c2.trans (by
    refine X0.alen hexec hB0 rfl rfl (hb hbytes d2) ?_
    refine XS.isub X0.here hexec rfl (hb hbytes d3) rfl ?_
    refine bipushV X0.here hexec rfl 31 (hb hbytes d4) (by decide) ?_
    refine iushr X0.here hexec rfl (hb hbytes d6) rfl ?_
    refine i2b X0.here hexec rfl (hb hbytes d7) rfl ?_
    exact Steps.refl _)
  have e0 : lo8 (ushr (Int32.ofNat B.slots.size - Int32.ofNat B.slots.size) 31) = 0 := by rw [Int32.sub_self]; decide
  rw [e0] at c3
  exact ⟨s₁, some (.int 0), _, _, _, X0, rfl, rfl, rfl, (fun h => by cases h), ⟨rfl, hh0⟩, fun fs hl => c3.trans (X0.ireturnOut hexec hret rfl (Or.inr (Or.inr (Or.inl rfl))) (hb hbytes d8) hl)⟩
end CodL
/-- the String at a is Latin-1 over a new byte[] (the heap's one new cell): the low bytes of the len chars of A from o on; every cell but a is kept -/
def Got (a : Addr) (D : Cell) (fV fC : Field) (A : Cell) (o len : Nat) (r : Option Value) (s u : State) : Prop := r = none ∧ ∃ D' V : Cell, Blank "java/lang/String" a D' u ∧ Same D D' [fV.slot, fC.slot] ∧ D'.slots[fV.slot]? = some (.ref s.heap.size) ∧ D'.slots[fC.slot]? = some (.int 0) ∧ Arr .byte s.heap.size V u ∧ V.vm = .none ∧ u.vm.findClass "[B" = some V.cls ∧ V.slots.size = len ∧ (∀ j, j < len → V.slots[j]? = some (.int (lo8 (cv A (o + j))))) ∧ (∀ (y : Addr) (c : Cell), y ≠ a → s.heap[y]? = some c → u.heap[y]? = some c) ∧ u.heap.size = s.heap.size + 1
theorem Got.mv {a : Addr} {D A : Cell} {fV fC : Field} {o len : Nat} : ∀ r (U U' V V' : State), U'.heap = U.heap → V.vm.Alike V'.vm → V'.heap = V.heap → Got a D fV fC A o len r U V → Got a D fV fC A o len r U' V' :=
  fun r U U' V V' h1 hal h2 ⟨e0, D', X, a1, a2, a3, a4, a5, a6, a7, a8, a9, a10, a11⟩ => ⟨e0, D', X, a1.mv hal h2, a2, by rw [h1]; exact a3, a4, by rw [h1]; exact a5.mv hal h2, a6, by rw [hal.findClass]; exact a7, a8, a9, by rw [h1, h2]; exact a10, by rw [h1, h2]; exact a11⟩
namespace New4
def yN : MethodName := ⟨"java/lang/String", "<init>", "([CIILjava/lang/Void;)V"⟩
abbrev yB : ByteArray := jdk_42_method_149_code
theorem d0 : decode yB 0 = .ok (.aload_n 0, 1) := by decide +kernel
theorem d1 : decode yB 1 = .ok (.invokespecial 1, 3) := by decide +kernel
theorem d4 : decode yB 4 = .ok (.iload_n 3, 1) := by decide +kernel
theorem d5 : decode yB 5 = .ok (.ifCond (.ne) 22, 3) := by decide +kernel
theorem d27 : decode yB 27 = .ok (.getstatic 38, 3) := by decide +kernel
theorem d30 : decode yB 30 = .ok (.ifCond (.eq) 28, 3) := by decide +kernel
theorem d33 : decode yB 33 = .ok (.aload_n 1, 1) := by decide +kernel
theorem d34 : decode yB 34 = .ok (.iload_n 2, 1) := by decide +kernel
theorem d35 : decode yB 35 = .ok (.iload_n 3, 1) := by decide +kernel
theorem d36 : decode yB 36 = .ok (.invokestatic 177, 3) := by decide +kernel
theorem d39 : decode yB 39 = .ok (.astore 5, 2) := by decide +kernel
theorem d41 : decode yB 41 = .ok (.aload_n 0, 1) := by decide +kernel
theorem d42 : decode yB 42 = .ok (.aload 5, 2) := by decide +kernel
theorem d44 : decode yB 44 = .ok (.iload_n 3, 1) := by decide +kernel
theorem d45 : decode yB 45 = .ok (.invokestatic 47, 3) := by decide +kernel
theorem d48 : decode yB 48 = .ok (.putfield 15, 3) := by decide +kernel
theorem d51 : decode yB 51 = .ok (.aload_n 0, 1) := by decide +kernel
theorem d52 : decode yB 52 = .ok (.aload 5, 2) := by decide +kernel
theorem d54 : decode yB 54 = .ok (.putfield 9, 3) := by decide +kernel
theorem d57 : decode yB 57 = .ok (.return_, 1) := by decide +kernel
def site : List Cond := [.fieldLink "java/lang/String" 38 "java/lang/String" "COMPACT_STRINGS" "Z", Cmp3.tab, CodL.tab, .laysFinal "java/lang/String" "java/lang/String" "value" "[B", .fieldLink "java/lang/String" 9 "java/lang/String" "value" "[B", .laysFinal "java/lang/String" "java/lang/String" "coder" "B", .fieldLink "java/lang/String" 15 "java/lang/String" "coder" "B"] ++ objW "java/lang/String" 1 ++ staticW "java/lang/String" 177 Cmp3.yN ++ staticW "java/lang/String" 47 CodL.yN
def tab : Cond := tabOf yN yB 6 none site
def P (a : Addr) (D : Cell) (fV fC : Field) (b : Addr) (A : Cell) (z : Int32) (o len : Nat) (args : Array Value) (s : State) : Prop := args = #[.ref a, .ref b, .int (Int32.ofNat o), .int (Int32.ofNat len), .null] ∧ Blank "java/lang/String" a D s ∧ Found "java/lang/String" "value" "[B" fV s ∧ Found "java/lang/String" "coder" "B" fC s ∧ Ch b A s ∧ StaticIs s "java/lang/String" "COMPACT_STRINGS" "Z" (.int z) ∧ ¬ z = 0 ∧ 0 < len ∧ o + len ≤ A.slots.size ∧ len ≤ 536870912 ∧ ∀ i, i < len → ¬ 255 < cv A (o + i)
def E (a : Addr) (D : Cell) (fV fC : Field) (A : Cell) (o len : Nat) (r : Option Value) (s u : State) : Prop := Got a D fV fC A o len r s u
/-- len > 0, no char of the range above 255: a Latin-1 String of their low bytes -/
theorem law (l : Launch) (a : Addr) (D : Cell) (fV fC : Field) (b : Addr) (A : Cell) (z : Int32) (o len : Nat) : Law l yN 5 4 2 35 yB 6 none site (P a D fV fC b A z o len) (E a D fV fC A o len) [⟨a, fC.slot⟩, ⟨a, fV.slot⟩] 1 len := by
  refine Law.of_walk (plainFor_of_name (by decide +kernel)) (by decide +kernel) (by decide +kernel) (by decide) (fun _ _ h => by rw [h.1]; rfl) (fun _ U U' hal hh h => ⟨h.1, h.2.1.mv hal hh, h.2.2.1.al hal, h.2.2.2.1.al hal, h.2.2.2.2.1.mv hal hh, h.2.2.2.2.2.1.there hal hh, h.2.2.2.2.2.2⟩) (fun r U U' V V' h1 hal h2 h => Got.mv r U U' V V' h1 hal h2 h) ?_
  intro p e s m args below meth c s₁ X0 hexec hbytes hml hret hlk hnm hown hh0 W hP
  obtain ⟨rfl, hB, f1, f2, hA, s1, hz, l0, l1, l2, hp⟩ := hP
  have a31 := hA.1.2.2.2
  have c1 : Steps p.tables e below (s₁.setTop (entryFrame m #[.ref a, .ref b, .int (Int32.ofNat o), .int (Int32.ofNat len), .null] 6)) (s₁.setTop (mkF m 0 #[.val (.ref a), .val (.ref b), .val (.int (Int32.ofNat o)), .val (.int (Int32.ofNat len)), .val .null, .unset] [])) := entry rfl
  have c2 : Steps p.tables e below (s₁.setTop (entryFrame m #[.ref a, .ref b, .int (Int32.ofNat o), .int (Int32.ofNat len), .null] 6)) (s₁.setTop (mkF m 1 #[.val (.ref a), .val (.ref b), .val (.int (Int32.ofNat o)), .val (.int (Int32.ofNat len)), .val .null, .unset] [.ref a])) := c1.trans (by
    refine XS.aloadN X0.here hexec rfl (hb hbytes d0) rfl rfl ?_
    exact Steps.refl _)
  obtain ⟨T3, X3, q3, st3⟩ := X0.oinit hexec hown (wks W (objW "java/lang/String" 1)) (g := (mkF m 1 #[.val (.ref a), .val (.ref b), .val (.int (Int32.ofNat o)), .val (.int (Int32.ofNat len)), .val .null, .unset] [.ref a])) rfl (by rw [hml]; rfl) (rest := []) rfl (hb hbytes d1) (W := 0) (by show 2 * 0 + 0 ≤ _; decide) (Nat.le_of_ble_eq_true rfl) (Nat.le_of_ble_eq_true rfl)
  have hh3 := q3.trans hh0
  have c4 : Steps p.tables e below (s₁.setTop (entryFrame m #[.ref a, .ref b, .int (Int32.ofNat o), .int (Int32.ofNat len), .null] 6)) (T3.setTop (mkF m 27 #[.val (.ref a), .val (.ref b), .val (.int (Int32.ofNat o)), .val (.int (Int32.ofNat len)), .val .null, .unset] [])) := (c2.trans (st3 _ (Steps.refl _))).trans (by
    refine XS.iloadN X3.here hexec rfl (hb hbytes d4) rfl ?_
    refine XS.ifYes X3.here hexec rfl (pc0 := 5) rfl (hb hbytes d5) rfl (i0_ne_t (nz32 (by omega) l0)) (by decide) rfl ?_
    exact Steps.refl _)
  obtain ⟨T5, X5, q5, st5⟩ := X3.sget hexec hown (wk W (.fieldLink "java/lang/String" 38 "java/lang/String" "COMPACT_STRINGS" "Z")) s1 (fun _ _ h => by rw [hh3]; exact h) (g := (mkF m 27 #[.val (.ref a), .val (.ref b), .val (.int (Int32.ofNat o)), .val (.int (Int32.ofNat len)), .val .null, .unset] [])) rfl (hb hbytes d27)
  have hh5 := q5.trans hh3
  have c6 : Steps p.tables e below (s₁.setTop (entryFrame m #[.ref a, .ref b, .int (Int32.ofNat o), .int (Int32.ofNat len), .null] 6)) (T5.setTop (mkF m 30 #[.val (.ref a), .val (.ref b), .val (.int (Int32.ofNat o)), .val (.int (Int32.ofNat len)), .val .null, .unset] [.int z])) := c4.trans (st5 _ (Steps.refl _))
  have c7 : Steps p.tables e below (s₁.setTop (entryFrame m #[.ref a, .ref b, .int (Int32.ofNat o), .int (Int32.ofNat len), .null] 6)) (T5.setTop (mkF m 36 #[.val (.ref a), .val (.ref b), .val (.int (Int32.ofNat o)), .val (.int (Int32.ofNat len)), .val .null, .unset] [.int (Int32.ofNat len), .int (Int32.ofNat o), .ref b])) := c6.trans (by
    refine XS.ifNo X5.here hexec rfl (hb hbytes d30) rfl (i0_eq_f hz) ?_
    refine XS.aloadN X5.here hexec rfl (hb hbytes d33) rfl rfl ?_
    refine XS.iloadN X5.here hexec rfl (hb hbytes d34) rfl ?_
    refine XS.iloadN X5.here hexec rfl (hb hbytes d35) rfl ?_
    exact Steps.refl _)
  obtain ⟨v8, T8, X8, E8, g8⟩ := X5.callS hexec (Cmp3.law l b A o len) hown (wks W (staticW "java/lang/String" 177 Cmp3.yN)) (wk W Cmp3.tab) (W := 0) (Nat.le_of_ble_eq_true rfl) (Nat.le_of_ble_eq_true rfl) (Nat.le_refl _) (by show 0 + len ≤ len; omega) (g := (mkF m 36 #[.val (.ref a), .val (.ref b), .val (.int (Int32.ofNat o)), .val (.int (Int32.ofNat len)), .val .null, .unset] [.int (Int32.ofNat len), .int (Int32.ofNat o), .ref b])) rfl (by rw [hml]; rfl) c7 (argsL := [.ref b, .int (Int32.ofNat o), .int (Int32.ofNat len)]) (rest := []) rfl rfl (by show 2 * 0 + 0 ≤ _; decide) (hb hbytes d36) (⟨rfl, hA.mv X5.warmed.alike hh5, l1, l2, hp⟩)
  obtain ⟨e8, z8⟩ := E8
  obtain ⟨rfl, N, n1, n2, n3, n4, n5, n6⟩ := NewArr.mv _ T5 s _ _ hh5.symm (Vm.Alike.refl _) rfl e8
  rw [hh5] at z8
  have hB1 := hB.keep X8.warmed.alike (n6 _ _ hB.1)
  have hne : s.heap.size ≠ a := (Nat.ne_of_lt (Array.getElem?_eq_some_iff.mp hB.1).1).symm
  have c9 : Steps p.tables e below (s₁.setTop (entryFrame m #[.ref a, .ref b, .int (Int32.ofNat o), .int (Int32.ofNat len), .null] 6)) (T8.setTop (mkF m 39 #[.val (.ref a), .val (.ref b), .val (.int (Int32.ofNat o)), .val (.int (Int32.ofNat len)), .val .null, .unset] [.ref s.heap.size])) := g8
  have c10 : Steps p.tables e below (s₁.setTop (entryFrame m #[.ref a, .ref b, .int (Int32.ofNat o), .int (Int32.ofNat len), .null] 6)) (T8.setTop (mkF m 45 #[.val (.ref a), .val (.ref b), .val (.int (Int32.ofNat o)), .val (.int (Int32.ofNat len)), .val .null, .val (.ref s.heap.size)] [.int (Int32.ofNat N.slots.size), .ref s.heap.size, .ref a])) := by
    have hc : Steps p.tables e below (s₁.setTop (entryFrame m #[.ref a, .ref b, .int (Int32.ofNat o), .int (Int32.ofNat len), .null] 6)) (T8.setTop (mkF m 45 #[.val (.ref a), .val (.ref b), .val (.int (Int32.ofNat o)), .val (.int (Int32.ofNat len)), .val .null, .val (.ref s.heap.size)] [.int (Int32.ofNat len), .ref s.heap.size, .ref a])) := c9.trans (by
      refine XS.astore X8.here hexec rfl (hb hbytes d39) rfl rfl rfl ?_
      refine XS.aloadN X8.here hexec rfl (hb hbytes d41) rfl rfl ?_
      refine XS.aload X8.here hexec rfl (hb hbytes d42) rfl rfl ?_
      refine XS.iloadN X8.here hexec rfl (hb hbytes d44) rfl ?_
      exact Steps.refl _)
    rw [n4]; exact hc
  obtain ⟨v11, T11, X11, E11, g11⟩ := X8.callS hexec (CodL.law l s.heap.size N) hown (wks W (staticW "java/lang/String" 47 CodL.yN)) (wk W CodL.tab) (W := 1) (Nat.le_of_ble_eq_true rfl) (Nat.le_of_ble_eq_true rfl) (Nat.le_refl _) (by show 0 + len + 0 ≤ len; omega) (g := (mkF m 45 #[.val (.ref a), .val (.ref b), .val (.int (Int32.ofNat o)), .val (.int (Int32.ofNat len)), .val .null, .val (.ref s.heap.size)] [.int (Int32.ofNat N.slots.size), .ref s.heap.size, .ref a])) rfl (by rw [hml]; rfl) c10 (argsL := [.ref s.heap.size, .int (Int32.ofNat N.slots.size)]) (rest := [.ref a]) rfl rfl (by show 2 * 0 + (1 + 0) ≤ _; decide) (hb hbytes d45) (⟨rfl, n1⟩)
  obtain ⟨rfl, q11⟩ := E11
  have hB11 := hB1.mv (X8.warmed.alike.symm.trans X11.warmed.alike) q11
  have c12 : Steps p.tables e below (s₁.setTop (entryFrame m #[.ref a, .ref b, .int (Int32.ofNat o), .int (Int32.ofNat len), .null] 6)) (T11.setTop (mkF m 48 #[.val (.ref a), .val (.ref b), .val (.int (Int32.ofNat o)), .val (.int (Int32.ofNat len)), .val .null, .val (.ref s.heap.size)] [.int 0, .ref a])) := g11
  obtain ⟨T13, X13, p13, bl13, sl13, st13⟩ := X11.finit hexec hown (wk W (.fieldLink "java/lang/String" 15 "java/lang/String" "coder" "B")) (Or.inr ⟨_, (wk W (.laysFinal "java/lang/String" "java/lang/String" "coder" "B"))⟩) (Or.inl ⟨rfl, hnm⟩) f2 (Or.inl rfl) hB11 (t := .byte) (by decide +kernel) rfl (g := (mkF m 48 #[.val (.ref a), .val (.ref b), .val (.int (Int32.ofNat o)), .val (.int (Int32.ofNat len)), .val .null, .val (.ref s.heap.size)] [.int 0, .ref a])) rfl (rest := []) rfl (hb hbytes d48)
  have c14 : Steps p.tables e below (s₁.setTop (entryFrame m #[.ref a, .ref b, .int (Int32.ofNat o), .int (Int32.ofNat len), .null] 6)) (T13.setTop (mkF m 54 #[.val (.ref a), .val (.ref b), .val (.int (Int32.ofNat o)), .val (.int (Int32.ofNat len)), .val .null, .val (.ref s.heap.size)] [.ref s.heap.size, .ref a])) := (c12.trans (st13 _ (Steps.refl _))).trans (by
    refine XS.aloadN X13.here hexec rfl (hb hbytes d51) rfl rfl ?_
    refine XS.aload X13.here hexec rfl (hb hbytes d52) rfl rfl ?_
    exact Steps.refl _)
  obtain ⟨T15, X15, p15, bl15, sl15, st15⟩ := X13.finit hexec hown (wk W (.fieldLink "java/lang/String" 9 "java/lang/String" "value" "[B")) (Or.inr ⟨_, (wk W (.laysFinal "java/lang/String" "java/lang/String" "value" "[B"))⟩) (Or.inl ⟨rfl, hnm⟩) f1 (Or.inl rfl) bl13 (t := (.array .byte)) (by decide +kernel) rfl (g := (mkF m 54 #[.val (.ref a), .val (.ref b), .val (.int (Int32.ofNat o)), .val (.int (Int32.ofNat len)), .val .null, .val (.ref s.heap.size)] [.ref s.heap.size, .ref a])) rfl (rest := []) rfl (hb hbytes d54)
  have c16 : Steps p.tables e below (s₁.setTop (entryFrame m #[.ref a, .ref b, .int (Int32.ofNat o), .int (Int32.ofNat len), .null] 6)) (T15.setTop (mkF m 57 #[.val (.ref a), .val (.ref b), .val (.int (Int32.ofNat o)), .val (.int (Int32.ofNat len)), .val .null, .val (.ref s.heap.size)] [])) := c14.trans (st15 _ (Steps.refl _))
  have ap := apart (Or.inr ⟨_, (wk W (.laysFinal "java/lang/String" "java/lang/String" "value" "[B"))⟩) (Or.inr ⟨_, (wk W (.laysFinal "java/lang/String" "java/lang/String" "coder" "B"))⟩) f1 f2 (t₁ := .array .byte) (t₂ := .byte) (by decide +kernel) (by decide +kernel) (by decide)
  have al := X8.warmed.alike.symm.trans X15.warmed.alike
  have n7 : T11.heap[s.heap.size]? = some N := by rw [q11]; exact n1.1
  exact ⟨T15, none, _, _, _, X15, by simp, rfl, by omega, (fun _ => rfl), ⟨rfl, _, N, bl15, ((Same.refl D _).set _ (by simp)).set _ (by simp), sl15, (Cell.slots_setSlot_ne _ ap).trans sl13, n1.keep al (p15.other hne (p13.other hne n7)), n2, by rw [al.findClass]; exact n3, n4, n5, fun y c h1 h2 => p15.other h1 (p13.other h1 (by rw [q11]; exact n6 y c h2)), by rw [p15.2.2, p13.2.2, q11]; exact z8⟩, fun fs hl => c16.trans (X15.returnOut hexec hret (hb hbytes d57) hl)⟩
end New4
namespace New1
def yN : MethodName := ⟨"java/lang/String", "<init>", "([C)V"⟩
abbrev yB : ByteArray := jdk_42_method_3_code
theorem d0 : decode yB 0 = .ok (.aload_n 0, 1) := by decide +kernel
theorem d1 : decode yB 1 = .ok (.aload_n 1, 1) := by decide +kernel
theorem d2 : decode yB 2 = .ok (.iconst 0, 1) := by decide +kernel
theorem d3 : decode yB 3 = .ok (.aload_n 1, 1) := by decide +kernel
theorem d4 : decode yB 4 = .ok (.arraylength, 1) := by decide +kernel
theorem d5 : decode yB 5 = .ok (.aconst_null, 1) := by decide +kernel
theorem d6 : decode yB 6 = .ok (.invokespecial 27, 3) := by decide +kernel
theorem d9 : decode yB 9 = .ok (.return_, 1) := by decide +kernel
def site : List Cond := [New4.tab] ++ initW "java/lang/String" 27 New4.yN
def tab : Cond := tabOf yN yB 2 none site
def P (a : Addr) (D : Cell) (fV fC : Field) (b : Addr) (A : Cell) (z : Int32) (args : Array Value) (s : State) : Prop := args = #[.ref a, .ref b] ∧ Blank "java/lang/String" a D s ∧ Found "java/lang/String" "value" "[B" fV s ∧ Found "java/lang/String" "coder" "B" fC s ∧ Ch b A s ∧ StaticIs s "java/lang/String" "COMPACT_STRINGS" "Z" (.int z) ∧ ¬ z = 0 ∧ 0 < A.slots.size ∧ A.slots.size ≤ 536870912 ∧ ∀ i, i < A.slots.size → ¬ 255 < cv A i
def E (a : Addr) (D : Cell) (fV fC : Field) (A : Cell) (r : Option Value) (s u : State) : Prop := Got a D fV fC A 0 A.slots.size r s u
/-- new String(chars), not empty, no char above 255: a Latin-1 String of their low bytes -/
theorem law (l : Launch) (a : Addr) (D : Cell) (fV fC : Field) (b : Addr) (A : Cell) (z : Int32) : Law l yN 2 1 3 52 yB 2 none site (P a D fV fC b A z) (E a D fV fC A) [⟨a, fC.slot⟩, ⟨a, fV.slot⟩] 1 A.slots.size := by
  refine Law.of_walk (plainFor_of_name (by decide +kernel)) (by decide +kernel) (by decide +kernel) (by decide) (fun _ _ h => by rw [h.1]; rfl) (fun _ U U' hal hh h => ⟨h.1, h.2.1.mv hal hh, h.2.2.1.al hal, h.2.2.2.1.al hal, h.2.2.2.2.1.mv hal hh, h.2.2.2.2.2.1.there hal hh, h.2.2.2.2.2.2⟩) (fun r U U' V V' h1 hal h2 h => Got.mv r U U' V V' h1 hal h2 h) ?_
  intro p e s m args below meth c s₁ X0 hexec hbytes hml hret hlk hnm hown hh0 W hP
  obtain ⟨rfl, hB, f1, f2, hA, s1, hz, l0, l2, hp⟩ := hP
  have c1 : Steps p.tables e below (s₁.setTop (entryFrame m #[.ref a, .ref b] 2)) (s₁.setTop (mkF m 0 #[.val (.ref a), .val (.ref b)] [])) := entry rfl
  have c2 : Steps p.tables e below (s₁.setTop (entryFrame m #[.ref a, .ref b] 2)) (s₁.setTop (mkF m 6 #[.val (.ref a), .val (.ref b)] [.null, .int (Int32.ofNat A.slots.size), .int 0, .ref b, .ref a])) := c1.trans (by
    refine XS.aloadN X0.here hexec rfl (hb hbytes d0) rfl rfl ?_
    refine XS.aloadN X0.here hexec rfl (hb hbytes d1) rfl rfl ?_
    refine iconstV X0.here hexec rfl 0 (hb hbytes d2) (by decide) ?_
    refine XS.aloadN X0.here hexec rfl (hb hbytes d3) rfl rfl ?_
    refine X0.alen hexec (hA.1.mv X0.warmed.alike hh0) rfl rfl (hb hbytes d4) ?_
    refine XS.aconstNull X0.here hexec rfl (hb hbytes d5) ?_
    exact Steps.refl _)
  obtain ⟨v3, T3, X3, E3, g3⟩ := X0.callN hexec (New4.law l a D fV fC b A z 0 A.slots.size) rfl hown (wks W (initW "java/lang/String" 27 New4.yN)) (W New4.tab (by simp only [site, List.mem_cons, List.mem_append, true_or, or_true])) (W := 0) (Nat.le_of_ble_eq_true rfl) (Nat.le_of_ble_eq_true rfl) (Nat.le_refl _) (by show 0 + A.slots.size ≤ A.slots.size; omega) (g := (mkF m 6 #[.val (.ref a), .val (.ref b)] [.null, .int (Int32.ofNat A.slots.size), .int (Int32.ofNat 0), .ref b, .ref a])) rfl (by rw [hml]; rfl) c2 (argsL := [.ref b, .int (Int32.ofNat 0), .int (Int32.ofNat A.slots.size), .null]) (rest := []) rfl rfl (by show 2 * 0 + 0 ≤ _; decide) (hb hbytes d6) (⟨rfl, hB.mv X0.warmed.alike hh0, f1.al X0.warmed.alike, f2.al X0.warmed.alike, hA.mv X0.warmed.alike hh0, s1.there X0.warmed.alike hh0, hz, l0, by omega, l2, fun i hi => by rw [Nat.zero_add]; exact hp i hi⟩)
  have e0 := Got.mv _ s₁ s _ _ hh0.symm (Vm.Alike.refl _) rfl E3
  obtain rfl := e0.1
  have c4 : Steps p.tables e below (s₁.setTop (entryFrame m #[.ref a, .ref b] 2)) (T3.setTop (mkF m 9 #[.val (.ref a), .val (.ref b)] [])) := g3
  exact ⟨T3, none, _, _, _, X3, by simp, rfl, by omega, (fun _ => rfl), e0, fun fs hl => c4.trans (X3.returnOut hexec hret (hb hbytes d9) hl)⟩
theorem pays {l : Launch} {R : Room} {p : Program} {e : Env} {below : List Frame} {s : State} {sargs : Array Value} {len W : Nat} (a : Addr) (D : Cell) (fV fC : Field) (b : Addr) (A : Cell) (z : Int32) (htab : tab.before sargs s = true) (hfr : 4 ≤ R.frames) (hlo : W + 65 ≤ R.locals) :
    Back l R p e below s sargs yN len W (fun A₁ a₁ => A₁.cells + 1 ≤ R.cells ∧ A₁.slots + A.slots.size ≤ R.slots ∧ P a D fV fC b A z a₁ A₁.U) (fun A₁ _ v₁ B₁ => E a D fV fC A v₁ A₁.U B₁.U ∧ B₁.locs = A₁.locs ++ [⟨a, fC.slot⟩, ⟨a, fV.slot⟩] ∧ B₁.cells = A₁.cells + 1 ∧ B₁.slots = A₁.slots + A.slots.size) :=
  (law l a D fV fC b A z).pays htab hfr (by omega)
end New1
/-- the byte, read back as charAt reads it, is the char -/
theorem lo8_mask {x : Int32} (h0 : ¬ x < 0) (h1 : ¬ 255 < x) : lo8 x &&& 255 = x := by
  have t : ∀ k : Fin 256, lo8 (Int32.ofNat k.val) &&& 255 = Int32.ofNat k.val := by decide +kernel
  rw [Int32.lt_iff_toInt_lt] at h0 h1
  have e0 : (0 : Int32).toInt = 0 := rfl
  have e1 : (255 : Int32).toInt = 255 := rfl
  obtain ⟨k, hk⟩ : ∃ k : Nat, x.toInt = k := ⟨x.toInt.toNat, by omega⟩
  have hx : x = Int32.ofNat k := Int32.toInt_inj.mp (by rw [hk, Int32.toInt_ofNat_small (by omega)])
  rw [hx]
  exact t ⟨k, by omega⟩
end StrChars
namespace StrChars.Road
open Jvm Sem ClassFile Op Lib Jvm.Stand Jvm.Free Jvm.Free.XT
open Jvm.Lib.Cold (StaticIs)
abbrev ST : String := "java/lang/String"
/-- every table word that New1's law asks, flat -/
abbrev words : List Jvm.Cond := [.code New1.yN New1.yB 2 none, .initialized ST, .methodLink ST 27 New4.yN, .instanceMethod New4.yN,
  .code New4.yN New4.yB 6 none, .fieldLink ST 38 ST "COMPACT_STRINGS" "Z", .laysFinal ST ST "value" "[B", .fieldLink ST 9 ST "value" "[B", .laysFinal ST ST "coder" "B", .fieldLink ST 15 ST "coder" "B",
  .methodLink ST 1 Lib.objectInit, .instanceMethod Lib.objectInit, .code Lib.objectInit ⟨#[0xb1]⟩ 1 none, .methodLink ST 177 Cmp3.yN, .static Cmp3.yN, .methodLink ST 47 CodL.yN, .static CodL.yN,
  .code Cmp3.yN Cmp3.yB 6 (some (.array .byte)), .initialized U16, .arrayClass .byte, .methodLink U16 115 Cmp5.yN, .static Cmp5.yN, .code Cmp5.yN Cmp5.yB 7 (some .int), .code CodL.yN CodL.yB 2 (some .byte)]
theorem tab_of {a : Array Value} {s : State} (h : ∀ w ∈ words, w.before a s = true) : New1.tab.before a s = true := by
  have h5 : Cmp5.tab.before a s = true := unparts (wk h (.code Cmp5.yN Cmp5.yB 7 (some .int))) (wks h (.initialized Cmp5.yN.cls :: Cmp5.site))
  have hc : CodL.tab.before a s = true := unparts (wk h (.code CodL.yN CodL.yB 2 (some .byte))) (wks h (.initialized CodL.yN.cls :: CodL.site))
  have q5 : ∀ w ∈ Cmp5.tab :: words, w.before a s = true := fun w hw => (List.mem_cons.mp hw).elim (fun e => e ▸ h5) (h w)
  have h3 : Cmp3.tab.before a s = true := unparts (wk q5 (.code Cmp3.yN Cmp3.yB 6 (some (.array .byte)))) (wks q5 (.initialized Cmp3.yN.cls :: Cmp3.site))
  have q3 : ∀ w ∈ Cmp3.tab :: CodL.tab :: words, w.before a s = true := fun w hw => (List.mem_cons.mp hw).elim (fun e => e ▸ h3) fun hw => (List.mem_cons.mp hw).elim (fun e => e ▸ hc) (h w)
  have h4 : New4.tab.before a s = true := unparts (wk q3 (.code New4.yN New4.yB 6 none)) (wks q3 (.initialized New4.yN.cls :: New4.site))
  have q4 : ∀ w ∈ New4.tab :: words, w.before a s = true := fun w hw => (List.mem_cons.mp hw).elim (fun e => e ▸ h4) (h w)
  exact unparts (wk q4 (.code New1.yN New1.yB 2 none)) (wks q4 (.initialized New1.yN.cls :: New1.site))
/-- the words ride from the start Z to the walk's own state -/
theorem moved {Z s : State} {a0 args : Array Value} (hZ : Z.Warmed39 s.vm) (hw : ∀ d ∈ words, d.before a0 Z = true) : ∀ d ∈ words, d.before args s = true := fun d hd => by
  have q := hw d hd
  have t : ∀ d ∈ words, d = .arrayClass .byte ∨ (d.onTables && d.keepsFace) = true := by decide +kernel
  rcases t d hd with rfl | t
  · exact RoadKit.mvA hZ q
  · exact RoadKit.mv hZ q t
/-- WHAT COMES BACK, over the tables of the start Z: h the heap at the call, h' behind it -/
def Q (Z : State) (x : Addr) (A : Cell) (h : Heap) (v : Option Value) (h' : Heap) (L : List Loc) : Prop := v = none ∧ (∀ y ∈ L, y.base = x) ∧ RoadKit.Keep h h' [x] ∧ h'.size = h.size + 1 ∧ RoadKit.Exa Z h' x ST ∧ RoadKit.Fld Z h' x ST "value" "[B" (.ref h.size) ∧ RoadKit.Fld Z h' x ST "coder" "B" (.int 0) ∧
  (∃ V : Cell, RoadKit.Arr Z h' h.size V .byte ∧ V.vm = .none ∧ Z.vm.findClass "[B" = some V.cls ∧ V.slots.size = A.slots.size ∧ ∀ j, j < A.slots.size → V.slots[j]? = some (.int (lo8 (cv A j)))) ∧
  ∀ (O n d : String) (w : Value), RoadKit.Fld Z h x O n d w → RoadKit.slotOf Z O n d ≠ RoadKit.slotOf Z ST "value" "[B" → RoadKit.slotOf Z O n d ≠ RoadKit.slotOf Z ST "coder" "B" → RoadKit.Fld Z h' x O n d w
/-- **new String(chars) AT A CALL, IN THE ROAD'S FORM**: for specialBack behind newO: x the fresh String, b the char[] with the cell A -/
theorem back {p : Program} {l : Launch} {e : Env} {R : Room} {s : State} {args : Array Value} {below : List Frame} {len W : Nat} {Z : State} {a0 : Array Value} {h : Heap} (hZ : Z.Warmed39 s.vm) (hw : ∀ d ∈ words, d.before a0 Z = true) {kI : Nat} (wi : (Jvm.Cond.instantiable ST kI).before a0 Z = true)
    {x b : Addr} {A : Cell} {z : Int32} {v0 c0 : Value} (E : RoadKit.Exa Z h x ST) (V : RoadKit.Fld Z h x ST "value" "[B" v0) (C : RoadKit.Fld Z h x ST "coder" "B" c0) (K : RoadKit.Arr Z h b A .char) (hty : Typed .char A) (S : RoadKit.Sta Z h ST "COMPACT_STRINGS" "Z" (.int z)) (hz : ¬ z = 0)
    (l0 : 0 < A.slots.size) (l2 : A.slots.size ≤ 536870912) (hp : ∀ i, i < A.slots.size → ¬ 255 < cv A i) (hfr : 4 ≤ R.frames) (hlo : W + 65 ≤ R.locals) :
    Back l R p e below s args New1.yN len W (fun P a => a = #[.ref x, .ref b] ∧ P.U.heap = h ∧ P.cells + 1 ≤ R.cells ∧ P.slots + A.slots.size ≤ R.slots)
      (fun P _ v B => ∃ L, Q Z x A h v B.U.heap L ∧ B.locs = P.locs ++ L ∧ B.cells = P.cells + 1 ∧ B.slots = P.slots + A.slots.size) := by
  intro m meth c P g ig mk a X hg hsize hdg hW hn hp'
  obtain ⟨rfl, rfl, r1, r2⟩ := hp'
  have al : Z.vm.Alike P.U.vm := hZ.alike.trans X.warmed.alike
  obtain ⟨D, cfV, kV, iV, fV, hD, gV, stV, knV, obV, asV, slV⟩ := id V
  obtain ⟨D', cfC, kC, iC, fC, hD', gC, stC, -, -, asC, slC⟩ := id C
  cases hD.symm.trans hD'
  obtain ⟨D2, kD, e1, e2, e3, e4, e5⟩ := id E
  cases hD.symm.trans e1
  obtain ⟨c2, k2, i1, i2, i3, -⟩ := Cond.instantiable_spec wi
  cases e2.symm.trans i1
  cases e3.symm.trans i2
  obtain ⟨kU, u1, u2⟩ := al.2.2 _ _ e3
  have hB : Blank ST x D P.U := ⟨hD, ⟨knV, fun q hq => by rw [hq] at obV; cases obV⟩, by rw [al.findClass]; exact e2, kU, u1, by rw [u2]; exact i3, by rw [u2]; exact e5 i3⟩
  have F1 : Found ST "value" "[B" fV P.U := ⟨SBG.found_only al ⟨cfV, kV, iV, gV⟩, stV⟩
  have F2 : Found ST "coder" "B" fC P.U := ⟨SBG.found_only al ⟨cfC, kC, iC, gC⟩, stC⟩
  have hA : Ch b A P.U := ⟨⟨K.1, State.isArrayOf_alike al K.2.1, K.2.2, by omega⟩, hty⟩
  have hS : StaticIs P.U ST "COMPACT_STRINGS" "Z" (.int z) := by
    obtain ⟨cfS, iS, kS, fS, st, cS, t1, t2, t3, t4, t5, t6, t7⟩ := S
    exact StaticIs.there (s := { Z with heap := P.U.heap }) ⟨cfS, iS, kS, fS, st, cS, t1, t2, t3, t4, t5, (fun q => by rw [q] at t6; cases t6), t7⟩ al rfl
  obtain ⟨v, B, X', ⟨⟨hv, E', V', q1, q2, q3, q4, q5, q6, q7, q8, q9, q10, q11⟩, hl, hc, hs⟩, st⟩ := New1.pays x D fV fC b A z (tab_of (moved hZ hw)) hfr hlo m meth c P g ig mk _ X hg hsize hdg hW hn ⟨r1, r2, rfl, hB, F1, F2, hA, hS, hz, l0, l2, hp⟩
  have al' : Z.vm.Alike B.U.vm := hZ.alike.trans X'.warmed.alike
  have hsz : E'.slots.size = D.slots.size := by
    obtain ⟨-, -, -, kB, w1, w2, w3⟩ := q1
    obtain ⟨kB', y1, y2⟩ := al'.2.2 _ _ e3
    rw [q2.2.1] at w1
    cases w1.symm.trans y1
    rw [w3, e5 i3, y2]
  refine ⟨v, B, X', ⟨_, ⟨hv, ?_, ⟨by omega, fun y cy hy hn' => q10 y cy (by simpa using hn') hy, fun y cy hy => ?_⟩, q11, ⟨E', _, q1.1, by rw [q2.2.1]; exact e2, by rw [q2.2.1]; exact e3, by rw [q2.1]; exact obV, fun _ => by rw [hsz]; exact e5 i3⟩,
    ⟨E', cfV, kV, iV, fV, q1.1, gV, stV, by rw [q2.1]; exact knV, by rw [q2.1]; exact obV, by rw [q2.2.1]; exact asV, q3⟩, ⟨E', cfC, kC, iC, fC, q1.1, gC, stC, by rw [q2.1]; exact knV, by rw [q2.1]; exact obV, by rw [q2.2.1]; exact asC, q4⟩,
    ⟨V', ⟨q5.1, State.isArrayOf_alike al'.symm q5.2.1, q5.2.2.1⟩, q6, by rw [← al'.findClass]; exact q7, q8, fun j hj => by have := q9 j hj; rwa [Nat.zero_add] at this⟩, fun O n d w F n1 n2 => ?_⟩, hl, hc, hs⟩, st⟩
  · intro y hy
    simp only [List.mem_cons, List.not_mem_nil, or_false] at hy
    rcases hy with rfl | rfl <;> rfl
  · by_cases q : y = x
    · subst q
      cases hD.symm.trans hy
      exact ⟨E', q1.1, q2.2.1, q2.1, hsz⟩
    · exact ⟨cy, q10 y cy q hy, rfl, rfl, rfl⟩
  · obtain ⟨D3, cf, k, i, f, g1, g2, g3, g4, g5, g6, g7⟩ := F
    cases hD.symm.trans g1
    simp only [RoadKit.slotOf, g2, gV, gC, Option.map_some, Option.getD_some] at n1 n2
    exact ⟨E', cf, k, i, f, q1.1, g2, g3, by rw [q2.1]; exact g4, by rw [q2.1]; exact g5, by rw [q2.2.1]; exact g6, by rw [q2.2.2 f.slot (by simp [n1, n2])]; exact g7⟩
end StrChars.Road
namespace StrChars.Road
open Jvm Sem ClassFile Op Lib Jvm.Stand Jvm.Free Jvm.Free.XT
/-- WHAT COMES BACK, the byte[] as a list of values -/
def QA (Z : State) (x : Addr) (zn : Int32) (cs : List Int32) (h : Heap) (v : Option Value) (h' : Heap) (L : List Loc) : Prop := v = none ∧ (∀ y ∈ L, y.base = x) ∧ RoadKit.Keep h h' [x] ∧ h'.size = h.size + 1 ∧ RoadKit.Exa Z h' x ST ∧ RoadKit.Fld Z h' x ST "value" "[B" (.ref h.size) ∧ RoadKit.Fld Z h' x ST "coder" "B" (.int 0) ∧
  (∃ kb, Z.vm.findClass "[B" = some kb ∧ RoadKit.Arv Z h' h.size kb .byte zn (cs.map fun c => .int (lo8 c)) (.int 0)) ∧
  ∀ (O n d : String) (w : Value), RoadKit.Fld Z h x O n d w → RoadKit.slotOf Z O n d ≠ RoadKit.slotOf Z ST "value" "[B" → RoadKit.slotOf Z O n d ≠ RoadKit.slotOf Z ST "coder" "B" → RoadKit.Fld Z h' x O n d w
/-- **new String(chars) AT A CALL, THE ARRAYS AS LISTS**: the char[] at b holds cs, not empty, no char above 255 -/
theorem backArv {p : Program} {l : Launch} {e : Env} {R : Room} {s : State} {args : Array Value} {below : List Frame} {len W : Nat} {Z : State} {a0 : Array Value} {h : Heap} (hZ : Z.Warmed39 s.vm) (hw : ∀ d ∈ words, d.before a0 Z = true) {kI : Nat} (wi : (Jvm.Cond.instantiable ST kI).before a0 Z = true)
    {x b : Addr} {k : ClassId} {zn z : Int32} {cs : List Int32} {dv v0 c0 : Value} (E : RoadKit.Exa Z h x ST) (V : RoadKit.Fld Z h x ST "value" "[B" v0) (C : RoadKit.Fld Z h x ST "coder" "B" c0) (K : RoadKit.Arv Z h b k .char zn (cs.map Value.int) dv) (S : RoadKit.Sta Z h ST "COMPACT_STRINGS" "Z" (.int z)) (hz : ¬ z = 0)
    (hlen : zn.toNatClampNeg = cs.length) (h0 : 0 < cs.length) (hbig : cs.length ≤ 536870912) (hall : ∀ c ∈ cs, ¬ 255 < c) (hfr : 4 ≤ R.frames) (hlo : W + 65 ≤ R.locals) :
    Back l R p e below s args New1.yN len W (fun P a => a = #[.ref x, .ref b] ∧ P.U.heap = h ∧ P.cells + 1 ≤ R.cells ∧ P.slots + cs.length ≤ R.slots)
      (fun P _ v B => ∃ L, QA Z x zn cs h v B.U.heap L ∧ B.locs = P.locs ++ L ∧ B.cells = P.cells + 1 ∧ B.slots = P.slots + cs.length) := by
  obtain ⟨A, K1, K2, K3, K4, K5, K6⟩ := K
  have e : A.slots.size = cs.length := K3.trans hlen
  have hat : ∀ (i : Nat) (hi : i < cs.length), A.slots[i]? = some (.int cs[i]) := fun i hi => by rw [K5 i (by omega)]; simp [List.getD_eq_getElem?_getD, hi]
  have hcv : ∀ (i : Nat) (hi : i < cs.length), cv A i = cs[i] := fun i hi => by unfold cv; rw [hat i hi]
  have hty : Typed .char A := fun i v hv => by
    have hi : i < A.slots.size := (Array.getElem?_eq_some_iff.mp hv).1
    have q := K5 i hi
    rw [hv] at q
    rw [Option.some.inj q]
    exact K6 i hi
  refine Back.mono (back hZ hw wi E V C K1 hty S hz (by omega) (by omega) (fun i hi => by rw [hcv i (by omega)]; exact hall _ (List.getElem_mem _)) hfr hlo) (fun P a hp => ⟨hp.1, hp.2.1, hp.2.2.1, by rw [e]; exact hp.2.2.2⟩) (fun P a v B hp hq => ?_)
  obtain ⟨L, ⟨q1, q2, q3, q4, q5, q6, q7, ⟨V', v1, v2, v3, v4, v5⟩, q9⟩, hl, hc, hs⟩ := hq
  refine ⟨L, ⟨q1, q2, q3, q4, q5, q6, q7, ⟨V'.cls, v3, V', v1, rfl, by rw [v4, e, hlen], K4, fun i hi => ?_, fun i hi => ?_⟩, q9⟩, hl, hc, by rw [hs, e]⟩
  · have hi' : i < cs.length := by omega
    rw [v5 i (by omega), hcv i hi']; simp [List.getD_eq_getElem?_getD, hi']
  · have hi' : i < cs.length := by omega
    simp only [List.getD_eq_getElem?_getD, List.getElem?_map, List.getElem?_eq_getElem hi', Option.map_some, Option.getD_some]
    exact fits_lo8 _
end StrChars.Road
namespace StrChars.Road
open Jvm Sem ClassFile Op Lib Jvm.Stand Jvm.Free Jvm.Free.XT
/-- WHAT COMES BACK, in the writer's own shape -/
def QV (Z : State) (x : Addr) (N : Int32) (bs : List Int32) (h : Heap) (n0 : Nat) (v : Option Value) (h' : Heap) (L : List Loc) : Prop := v = none ∧ RoadKit.Fr n0 L ∧ RoadKit.Keep h h' [x] ∧ RoadKit.Exa Z h' x ST ∧ RoadKit.Fld Z h' x ST "coder" "B" (.int 0) ∧
  ∃ (t : Addr) (kb : ClassId), n0 ≤ t ∧ h.size ≤ t ∧ ¬ t = x ∧ RoadKit.Fld Z h' x ST "value" "[B" (.ref t) ∧ RoadKit.Arv Z h' t kb .byte N (bs.map Value.int) (.int 0)
/-- **new String(chars) AT A CALL, FOR THE WRITER**: a char[] of n known ints, each 0 to 255 -/
theorem backV {p : Program} {l : Launch} {e : Env} {R : Room} {s : State} {args : Array Value} {below : List Frame} {len W : Nat} {Z : State} {a0 : Array Value} {h : Heap} (hZ : Z.Warmed39 s.vm) (hw : ∀ d ∈ words, d.before a0 Z = true) {kI : Nat} (wi : (Jvm.Cond.instantiable ST kI).before a0 Z = true)
    {x b : Addr} {kC : ClassId} {cs bs : List Int32} {d v0 c0 : Value} {z N : Int32} {n n0 : Nat} (hx0 : n0 ≤ x) (hh0 : n0 ≤ h.size) (E : RoadKit.Exa Z h x ST) (V : RoadKit.Fld Z h x ST "value" "[B" v0) (C : RoadKit.Fld Z h x ST "coder" "B" c0) (K : RoadKit.Arv Z h b kC .char N (cs.map Value.int) d) (S : RoadKit.Sta Z h ST "COMPACT_STRINGS" "Z" (.int z)) (hz : ¬ z = 0)
    (hn : cs.length = n) (hN : N = Int32.ofNat n) (l0 : 0 < n) (l2 : n ≤ 4000) (hp : ∀ c ∈ cs, ¬ c < 0 ∧ ¬ (255 : Int32) < c) (hb : bs = cs.map (fun c => c.toInt8.toInt32)) (hfr : 4 ≤ R.frames) (hlo : W + 65 ≤ R.locals) :
    Back l R p e below s args (⟨"java/lang/String", "<init>", "([C)V"⟩ : MethodName) len W (fun P a => a = #[.ref x, .ref b] ∧ P.U.heap = h ∧ P.cells + 1 ≤ R.cells ∧ P.slots + n ≤ R.slots)
      (fun P _ v B => ∃ L, QV Z x N bs h n0 v B.U.heap L ∧ B.locs = P.locs ++ L ∧ B.cells = P.cells + 1 ∧ B.slots = P.slots + n) := by
  subst hn hN hb
  refine Back.mono (backArv hZ hw wi E V C K S hz (n32 (by omega)) l0 (by omega) (fun c hc => (hp c hc).2) hfr hlo) (fun P a hp => hp) (fun P a v B hp hq => ?_)
  obtain ⟨L, ⟨q1, q2, q3, q4, q5, q6, q7, ⟨kb, v1, v2⟩, q9⟩, hl, hc, hs⟩ := hq
  exact ⟨L, ⟨q1, fun y hy => by rw [q2 y hy]; exact hx0, q3, q5, q7, h.size, kb, hh0, Nat.le_refl _, Nat.ne_of_gt E.lt, q6, by rw [List.map_map]; exact v2⟩, hl, hc, hs⟩
end StrChars.Road
namespace StrChars
open Jvm Sem ClassFile Op Lib Jvm.Stand Jvm.Free.XT Jvm.Free.ALB Jvm.Free.JM Jvm.Free
open Jvm.Lib.Cold (StaticIs)
def hi8 (x : Int32) : Int32 := lo8 (x >>> ((8 : Int32) &&& 31))
/-- what StringUTF16.getChar makes of two bytes -/
def pairCh (u v : Int32) : Int32 := (((u &&& 255) <<< ((0 : Int32) &&& 31)) ||| ((v &&& 255) <<< ((8 : Int32) &&& 31))).toUInt32.toUInt16.toUInt32.toInt32
theorem lo8_and (x : Int32) : (lo8 x &&& 255).toBitVec.toNat = x.toBitVec.toNat % 256 := by
  have h : (lo8 x).toBitVec = (x.toBitVec.signExtend 8).signExtend 32 := by rw [lo8, Int8.toBitVec_toInt32, Int32.toBitVec_toInt8]
  rw [Int32.toBitVec_and, BitVec.toNat_and, h]
  have e : ((x.toBitVec.signExtend 8).signExtend 32).toNat % 256 = x.toBitVec.toNat % 256 := by
    rw [BitVec.toNat_signExtend]
    have hlt := x.toBitVec.isLt
    simp only [BitVec.toNat_setWidth, BitVec.toNat_signExtend]
    split <;> split <;> omega
  rw [← e]
  exact Nat.and_two_pow_sub_one_eq_mod _ 8
theorem pair_says {c : Int32} (h0 : ¬ c < 0) (h1 : ¬ 65535 < c) : pairCh (lo8 c) (hi8 c) = c := by
  rw [Int32.lt_iff_toInt_lt] at h0 h1
  have e0 : (0 : Int32).toInt = 0 := rfl
  have e1 : (65535 : Int32).toInt = 65535 := rfl
  have hc : c.toInt = c.toBitVec.toNat := by
    have := c.toBitVec.isLt
    have e : c.toInt = c.toBitVec.toInt := rfl
    rw [e] at h0 h1
    rw [e]
    rw [BitVec.toInt_eq_toNat_cond] at h0 h1 ⊢
    split at h0 <;> split <;> omega
  have hn : c.toBitVec.toNat < 65536 := by omega
  have a1 := lo8_and c
  have a2 : (hi8 c &&& 255).toBitVec.toNat = c.toBitVec.toNat / 256 := by
    rw [hi8, lo8_and]
    have e : ((8 : Int32) &&& 31) = 8 := by decide
    rw [e, Int32.toBitVec_shiftRight]
    have e2 : ((8 : Int32).toBitVec.smod 32) = 8#32 := by decide
    rw [e2, BitVec.sshiftRight_eq', BitVec.toNat_sshiftRight_of_msb_false (by rw [BitVec.msb_eq_false_iff_two_mul_lt]; omega)]
    show c.toBitVec.toNat >>> 8 % 256 = _
    rw [Nat.shiftRight_eq_div_pow]
    omega
  unfold pairCh
  apply Int32.toBitVec_inj.mp
  apply BitVec.eq_of_toNat_eq
  have f0 : ((0 : Int32) &&& 31) = 0 := by decide
  have f8 : ((8 : Int32) &&& 31) = 8 := by decide
  rw [f0, f8]
  have g : (((lo8 c &&& 255) <<< (0 : Int32)) ||| ((hi8 c &&& 255) <<< (8 : Int32))).toBitVec.toNat = c.toBitVec.toNat := by
    rw [Int32.toBitVec_or, Int32.toBitVec_shiftLeft, Int32.toBitVec_shiftLeft]
    have s0 : ((0 : Int32).toBitVec.smod 32) = 0#32 := by decide
    have s8 : ((8 : Int32).toBitVec.smod 32) = 8#32 := by decide
    rw [s0, s8, BitVec.toNat_or]
    simp only [BitVec.shiftLeft_eq', BitVec.toNat_shiftLeft, a1, a2]
    show (c.toBitVec.toNat % 256) <<< 0 % 2 ^ 32 ||| (c.toBitVec.toNat / 256) <<< 8 % 2 ^ 32 = _
    rw [Nat.shiftLeft_zero, Nat.mod_eq_of_lt (show c.toBitVec.toNat % 256 < 2 ^ 32 by omega), Nat.mod_eq_of_lt (show (c.toBitVec.toNat / 256) <<< 8 < 2 ^ 32 by rw [Nat.shiftLeft_eq]; omega), Nat.or_comm, ← Nat.shiftLeft_add_eq_or_of_lt (by omega), Nat.shiftLeft_eq]
    omega
  show BitVec.toNat (((((lo8 c &&& 255) <<< (0 : Int32)) ||| ((hi8 c &&& 255) <<< (8 : Int32))).toBitVec.setWidth 16).setWidth 32) = _
  rw [BitVec.toNat_setWidth, BitVec.toNat_setWidth, g]
  omega
end StrChars
namespace StrChars
open Jvm Sem ClassFile Op Lib Jvm.Stand Jvm.Free.XT Jvm.Free.ALB Jvm.Free.JM Jvm.Free
open Jvm.Lib.Cold (StaticIs)
/-- the array's cell V codes the n chars f 0 .. f (n - 1) by the coder cd, as the JDK does: coder 1 just where some char is above 255 -/
def Cod (cd : Int32) (n : Nat) (f : Nat → Int32) (V : Cell) : Prop := (cd = 0 ∧ V.slots.size = n ∧ ∀ j, j < n → V.slots[j]? = some (.int (lo8 (f j))) ∧ ¬ 255 < f j) ∨ (cd = 1 ∧ V.slots.size = 2 * n ∧ (∀ j, j < n → V.slots[2 * j]? = some (.int (lo8 (f j))) ∧ V.slots[2 * j + 1]? = some (.int (hi8 (f j)))) ∧ ∃ j, j < n ∧ 255 < f j)
/-- **x is a String of the n chars f 0 .. f (n - 1)**, Latin-1 or UTF-16; its array at t has the cell V -/
def Txt (x t : Addr) (V : Cell) (cd : Int32) (n : Nat) (f : Nat → Int32) (U : State) : Prop := Exact "java/lang/String" x U ∧ Has x "java/lang/String" "value" "[B" (.ref t) U ∧ Has x "java/lang/String" "coder" "B" (.int cd) U ∧ XT.Arr .byte t V U ∧ Cod cd n f V ∧ ∀ j, j < n → ¬ f j < 0 ∧ ¬ 65535 < f j
theorem Txt.mv {x t : Addr} {V : Cell} {cd : Int32} {n : Nat} {f : Nat → Int32} {U U' : State} (h : Txt x t V cd n f U) (hal : U.vm.Alike U'.vm) (hh : U'.heap = U.heap) : Txt x t V cd n f U' := ⟨h.1.mv hal hh, h.2.1.mv hal hh, h.2.2.1.mv hal hh, h.2.2.2.1.mv hal hh, h.2.2.2.2⟩
end StrChars
namespace StrChars.Road
open Jvm Sem ClassFile Op Lib Jvm.Stand Jvm.Free Jvm.Free.XT
open Jvm.Lib.Cold (StaticIs)
theorem consq {a : Array Value} {s : State} {c : Jvm.Cond} {L : List Jvm.Cond} (h0 : c.before a s = true) (h : ∀ w ∈ L, w.before a s = true) : ∀ w ∈ c :: L, w.before a s = true := fun w hw => (List.mem_cons.mp hw).elim (fun e => e ▸ h0) (h w)
/-- the bytes of the chars cs, low before high -/
def wideBytes : List Int32 → List Value
  | [] => []
  | c :: cs => .int (lo8 c) :: .int (hi8 c) :: wideBytes cs
theorem wide_lo (d : Value) : ∀ (cs : List Int32) (j : Nat), j < cs.length → (wideBytes cs).getD (2 * j) d = .int (lo8 (cs.getD j 0))
  | [], j, h => absurd h (Nat.not_lt_zero j)
  | c :: cs, 0, _ => rfl
  | c :: cs, j + 1, h => by
    have q := wide_lo d cs j (by simpa using h)
    rw [show 2 * (j + 1) = 2 * j + 1 + 1 from by omega]
    simpa [wideBytes] using q
theorem wide_hi (d : Value) : ∀ (cs : List Int32) (j : Nat), j < cs.length → (wideBytes cs).getD (2 * j + 1) d = .int (hi8 (cs.getD j 0))
  | [], j, h => absurd h (Nat.not_lt_zero j)
  | c :: cs, 0, _ => rfl
  | c :: cs, j + 1, h => by
    have q := wide_hi d cs j (by simpa using h)
    rw [show 2 * (j + 1) + 1 = 2 * j + 1 + 1 + 1 from by omega]
    simpa [wideBytes] using q
theorem low_at (d : Value) (cs : List Int32) (j : Nat) (h : j < cs.length) : (cs.map fun c => Value.int (lo8 c)).getD j d = .int (lo8 (cs.getD j 0)) := by
  simp [List.getD_eq_getElem?_getD, h]
/-- an array of N2 bytes vs codes the chars cs by the coder cd -/
def CodA (cs : List Int32) (cd N2 : Int32) (vs : List Value) : Prop := (cd = 0 ∧ N2 = Int32.ofNat cs.length ∧ vs = (cs.map fun c => Value.int (lo8 c)) ∧ ∀ c ∈ cs, ¬ 255 < c) ∨ (cd = 1 ∧ N2 = Int32.ofNat (2 * cs.length) ∧ vs = wideBytes cs ∧ ∃ c ∈ cs, 255 < c)
theorem CodA.cod {cs : List Int32} {cd N2 : Int32} {vs : List Value} {V : Cell} (h : CodA cs cd N2 vs) (hn : 2 * cs.length < 2 ^ 31) (hs : V.slots.size = N2.toNatClampNeg) (hv : RoadKit.Has V vs (.int 0)) : Cod cd cs.length (fun j => cs.getD j 0) V := by
  rcases h with ⟨rfl, rfl, rfl, h⟩ | ⟨rfl, rfl, rfl, c, hc, hw⟩
  · rw [n32 (by omega)] at hs
    exact Or.inl ⟨rfl, hs, fun j hj => ⟨by rw [hv j (by omega), low_at _ _ _ hj], by
      have e : cs.getD j 0 = cs[j] := by simp [List.getD_eq_getElem?_getD, hj]
      show ¬ 255 < cs.getD j 0
      rw [e]; exact h _ (List.getElem_mem _)⟩⟩
  · rw [n32 (by omega)] at hs
    obtain ⟨j, hj, rfl⟩ := List.getElem_of_mem hc
    exact Or.inr ⟨rfl, hs, fun j hj => ⟨by rw [hv _ (by omega), wide_lo _ _ _ hj], by rw [hv _ (by omega), wide_hi _ _ _ hj]⟩, j, hj, by
      have e : cs.getD j 0 = cs[j] := by simp [List.getD_eq_getElem?_getD, hj]
      show 255 < cs.getD j 0
      rw [e]; exact hw⟩
/-- an object of exactly java/lang/String, its two fields found: as the laws ask it -/
theorem strObj {Z U : State} {a0 : Array Value} {kI : Nat} (wi : (Jvm.Cond.instantiable ST kI).before a0 Z = true) (al : Z.vm.Alike U.vm) {x : Addr} {v0 c0 : Value} (E : RoadKit.Exa Z U.heap x ST) (V : RoadKit.Fld Z U.heap x ST "value" "[B" v0) (C : RoadKit.Fld Z U.heap x ST "coder" "B" c0) :
    ∃ (D : Cell) (fV fC : Field), Blank ST x D U ∧ Found ST "value" "[B" fV U ∧ Found ST "coder" "B" fC U ∧ D.slots[fV.slot]? = some v0 ∧ D.slots[fC.slot]? = some c0 ∧ RoadKit.slotOf Z ST "value" "[B" = fV.slot ∧ RoadKit.slotOf Z ST "coder" "B" = fC.slot := by
  obtain ⟨D, cfV, kV, iV, fV, hD, gV, stV, knV, obV, asV, slV⟩ := V
  obtain ⟨D', cfC, kC, iC, fC, hD', gC, stC, -, -, asC, slC⟩ := C
  cases hD.symm.trans hD'
  obtain ⟨D2, kD, e1, e2, e3, e4, e5⟩ := E
  cases hD.symm.trans e1
  obtain ⟨c2, k2, i1, i2, i3, -⟩ := Cond.instantiable_spec wi
  cases e2.symm.trans i1
  cases e3.symm.trans i2
  obtain ⟨kU, u1, u2⟩ := al.2.2 _ _ e3
  exact ⟨D, fV, fC, ⟨hD, ⟨knV, fun q hq => by rw [hq] at obV; cases obV⟩, by rw [al.findClass]; exact e2, kU, u1, by rw [u2]; exact i3, by rw [u2]; exact e5 i3⟩, ⟨SBG.found_only al ⟨cfV, kV, iV, gV⟩, stV⟩, ⟨SBG.found_only al ⟨cfC, kC, iC, gC⟩, stC⟩, slV, slC, by simp [RoadKit.slotOf, gV], by simp [RoadKit.slotOf, gC]⟩
theorem sta_is {Z U : State} (al : Z.vm.Alike U.vm) {C n d : String} {v : Value} (S : RoadKit.Sta Z U.heap C n d v) : StaticIs U C n d v := by
  obtain ⟨cfS, iS, kS, fS, st, cS, t1, t2, t3, t4, t5, t6, t7⟩ := S
  exact StaticIs.there (s := { Z with heap := U.heap }) ⟨cfS, iS, kS, fS, st, cS, t1, t2, t3, t4, t5, (fun q => by rw [q] at t6; cases t6), t7⟩ al rfl
end StrChars.Road
namespace StrChars
open Jvm Sem ClassFile Op Lib Jvm.Stand Jvm.Free.XT Jvm.Free.ALB Jvm.Free.JM Jvm.Free
open Jvm.Lib.Cold (StaticIs)
/-- what place i of a byte[]'s cell holds -/
def yv (A : Cell) (i : Nat) : Int32 := match A.slots[i]? with | some (.int x) => x | _ => 0
theorem yv_get {a : Addr} {A : Cell} {U : State} (h : XT.Arr .byte a A U) (ht : Typed .byte A) {i : Nat} (hi : i < A.slots.size) : A.slots[i]? = some (.int (yv A i)) := by
  have e := Array.getElem?_eq_getElem hi
  have f := ht i _ e
  unfold yv; rw [e]
  generalize A.slots[i] = v at f
  cases v <;> simp [fits] at f ⊢
/-- the two arrays are equal, place for place -/
def EqC (A B : Cell) : Prop := A.slots.size = B.slots.size ∧ ∀ i, i < A.slots.size → yv A i = yv B i
/-- a boolean that says whether p -/
def Says01 (q : Prop) (r : Option Value) (s u : State) : Prop := ∃ v : Int32, r = some (.int v) ∧ u.heap = s.heap ∧ ((v = 1 ∧ q) ∨ (v = 0 ∧ ¬ q))
theorem Says01.mv {q : Prop} : ∀ r (U U' V V' : State), U'.heap = U.heap → V.vm.Alike V'.vm → V'.heap = V.heap → Says01 q r U V → Says01 q r U' V' :=
  fun r U U' V V' h1 _ h2 ⟨v, a, b, c⟩ => ⟨v, a, by rw [h1, h2]; exact b, c⟩
namespace LEq
def yN : MethodName := ⟨"java/lang/StringLatin1", "equals", "([B[B)Z"⟩
abbrev yB : ByteArray := jdk_43_method_13_code
theorem d0 : decode yB 0 = .ok (.aload_n 0, 1) := by decide +kernel
theorem d1 : decode yB 1 = .ok (.arraylength, 1) := by decide +kernel
theorem d2 : decode yB 2 = .ok (.aload_n 1, 1) := by decide +kernel
theorem d3 : decode yB 3 = .ok (.arraylength, 1) := by decide +kernel
theorem d4 : decode yB 4 = .ok (.if_icmp (.ne) 30, 3) := by decide +kernel
theorem d7 : decode yB 7 = .ok (.iconst 0, 1) := by decide +kernel
theorem d8 : decode yB 8 = .ok (.istore_n 2, 1) := by decide +kernel
theorem d9 : decode yB 9 = .ok (.iload_n 2, 1) := by decide +kernel
theorem d10 : decode yB 10 = .ok (.aload_n 0, 1) := by decide +kernel
theorem d11 : decode yB 11 = .ok (.arraylength, 1) := by decide +kernel
theorem d12 : decode yB 12 = .ok (.if_icmp (.ge) 20, 3) := by decide +kernel
theorem d15 : decode yB 15 = .ok (.aload_n 0, 1) := by decide +kernel
theorem d16 : decode yB 16 = .ok (.iload_n 2, 1) := by decide +kernel
theorem d17 : decode yB 17 = .ok (.baload, 1) := by decide +kernel
theorem d18 : decode yB 18 = .ok (.aload_n 1, 1) := by decide +kernel
theorem d19 : decode yB 19 = .ok (.iload_n 2, 1) := by decide +kernel
theorem d20 : decode yB 20 = .ok (.baload, 1) := by decide +kernel
theorem d21 : decode yB 21 = .ok (.if_icmp (.eq) 5, 3) := by decide +kernel
theorem d24 : decode yB 24 = .ok (.iconst 0, 1) := by decide +kernel
theorem d25 : decode yB 25 = .ok (.ireturn, 1) := by decide +kernel
theorem d26 : decode yB 26 = .ok (.iinc 2 1, 3) := by decide +kernel
theorem d29 : decode yB 29 = .ok (.goto (-20), 3) := by decide +kernel
theorem d32 : decode yB 32 = .ok (.iconst 1, 1) := by decide +kernel
theorem d33 : decode yB 33 = .ok (.ireturn, 1) := by decide +kernel
theorem d34 : decode yB 34 = .ok (.iconst 0, 1) := by decide +kernel
theorem d35 : decode yB 35 = .ok (.ireturn, 1) := by decide +kernel
def site : List Cond := []
def tab : Cond := tabOf yN yB 3 (some .boolean) site
def P (a : Addr) (A : Cell) (b : Addr) (B : Cell) (args : Array Value) (s : State) : Prop := args = #[.ref a, .ref b] ∧ XT.Arr .byte a A s ∧ Typed .byte A ∧ XT.Arr .byte b B s ∧ Typed .byte B
/-- whether two byte[] are equal, place for place -/
theorem law (l : Launch) (a : Addr) (A : Cell) (b : Addr) (B : Cell) : Law l yN 2 2 0 0 yB 3 (some .boolean) site (P a A b B) (Says01 (EqC A B)) [] 0 0 := by
  refine Law.of_walk (plainFor_of_name (by decide +kernel)) (by decide +kernel) (by decide +kernel) (by decide) (fun _ _ h => by rw [h.1]; rfl) (fun _ U U' hal hh h => ⟨h.1, h.2.1.mv hal hh, h.2.2.1, h.2.2.2.1.mv hal hh, h.2.2.2.2⟩) (fun r U U' V V' h1 hal h2 h => Says01.mv r U U' V V' h1 hal h2 h) ?_
  intro p e s m args below meth c s₁ X0 hexec hbytes hml hret hlk hnm hown hh0 W hP
  obtain ⟨rfl, hA, tA, hB, tB⟩ := hP
  have a31 := hA.2.2.2
  have b31 := hB.2.2.2
  have hA0 := hA.mv X0.warmed.alike hh0
  have hB0 := hB.mv X0.warmed.alike hh0
  have c1 : Steps p.tables e below (s₁.setTop (entryFrame m #[.ref a, .ref b] 3)) (s₁.setTop (mkF m 0 #[.val (.ref a), .val (.ref b), .unset] [])) := entry rfl
  have c2 : Steps p.tables e below (s₁.setTop (entryFrame m #[.ref a, .ref b] 3)) (s₁.setTop (mkF m 4 #[.val (.ref a), .val (.ref b), .unset] [.int (Int32.ofNat B.slots.size), .int (Int32.ofNat A.slots.size)])) := c1.trans (by
    refine XS.aloadN X0.here hexec rfl (hb hbytes d0) rfl rfl ?_
    refine X0.alen hexec hA0 rfl rfl (hb hbytes d1) ?_
    refine XS.aloadN X0.here hexec rfl (hb hbytes d2) rfl rfl ?_
    refine X0.alen hexec hB0 rfl rfl (hb hbytes d3) ?_
    exact Steps.refl _)
  by_cases hs : A.slots.size = B.slots.size
  · have c3 : Steps p.tables e below (s₁.setTop (entryFrame m #[.ref a, .ref b] 3)) (s₁.setTop (mkF m 9 #[.val (.ref a), .val (.ref b), .val (.int 0)] [])) := c2.trans (by
      refine XS.icmpNo X0.here hexec rfl (hb hbytes d4) rfl (ii_ne_f (by rw [hs])) ?_
      refine iconstV X0.here hexec rfl 0 (hb hbytes d7) (by decide) ?_
      refine XS.istoreN X0.here hexec rfl (hb hbytes d8) rfl rfl ?_
      exact Steps.refl _)
    have loop : ∀ (r i : Nat), i + r = A.slots.size → (∀ j, j < i → yv A j = yv B j) → Steps p.tables e below (s₁.setTop (entryFrame m #[.ref a, .ref b] 3)) (s₁.setTop (mkF m 9 #[.val (.ref a), .val (.ref b), .val (.int (Int32.ofNat i))] [])) → ∃ (pc : Nat) (Ls : Array Slot) (v : Int32), (pc = 25 ∨ pc = 33) ∧ ((v = 1 ∧ EqC A B) ∨ (v = 0 ∧ ¬ EqC A B)) ∧ Steps p.tables e below (s₁.setTop (entryFrame m #[.ref a, .ref b] 3)) (s₁.setTop (mkF m pc Ls [.int v])) := by
      intro r
      induction r with
      | zero =>
        intro i hi he cl
        exact ⟨33, _, 1, Or.inr rfl, Or.inl ⟨rfl, hs, fun j hj => he j (by omega)⟩, cl.trans (by
          refine XS.iloadN X0.here hexec rfl (hb hbytes d9) rfl ?_
          refine XS.aloadN X0.here hexec rfl (hb hbytes d10) rfl rfl ?_
          refine X0.alen hexec hA0 rfl rfl (hb hbytes d11) ?_
          refine XS.icmpYes X0.here hexec rfl (pc0 := 12) rfl (hb hbytes d12) rfl (ii_ge_t (nlt32 (by omega) (by omega))) (by decide) rfl ?_
          refine iconstV X0.here hexec rfl 1 (hb hbytes d32) (by decide) ?_
          exact Steps.refl _)⟩
      | succ r ih =>
        intro i hi he cl
        have c4 : Steps p.tables e below (s₁.setTop (entryFrame m #[.ref a, .ref b] 3)) (s₁.setTop (mkF m 21 #[.val (.ref a), .val (.ref b), .val (.int (Int32.ofNat i))] [.int (yv B i), .int (yv A i)])) := cl.trans (by
          refine XS.iloadN X0.here hexec rfl (hb hbytes d9) rfl ?_
          refine XS.aloadN X0.here hexec rfl (hb hbytes d10) rfl rfl ?_
          refine X0.alen hexec hA0 rfl rfl (hb hbytes d11) ?_
          refine XS.icmpNo X0.here hexec rfl (hb hbytes d12) rfl (ii_ge_f (lt32 (by omega) (by omega))) ?_
          refine XS.aloadN X0.here hexec rfl (hb hbytes d15) rfl rfl ?_
          refine XS.iloadN X0.here hexec rfl (hb hbytes d16) rfl ?_
          refine X0.aget hexec hA0 rfl (yv_get hA tA (i := i) (by omega)) rfl rfl (hb hbytes d17) ?_
          refine XS.aloadN X0.here hexec rfl (hb hbytes d18) rfl rfl ?_
          refine XS.iloadN X0.here hexec rfl (hb hbytes d19) rfl ?_
          refine X0.aget hexec hB0 rfl (yv_get hB tB (i := i) (by omega)) rfl rfl (hb hbytes d20) ?_
          exact Steps.refl _)
        by_cases hv : yv A i = yv B i
        · have c5 : Steps p.tables e below (s₁.setTop (entryFrame m #[.ref a, .ref b] 3)) (s₁.setTop (mkF m 9 #[.val (.ref a), .val (.ref b), .val (.int (Int32.ofNat i + 1))] [])) := c4.trans (by
            refine XS.icmpYes X0.here hexec rfl (pc0 := 21) rfl (hb hbytes d21) rfl (ii_eq_t hv) (by decide) rfl ?_
            refine iincV X0.here hexec rfl 1 (hb hbytes d26) (by decide) rfl rfl ?_
            refine XS.goto X0.here hexec rfl (pc0 := 29) rfl (hb hbytes d29) (by decide) rfl ?_
            exact Steps.refl _)
          rw [succ32] at c5
          exact ih (i + 1) (by omega) (fun j hj => by
            by_cases e : j = i
            · rw [e]; exact hv
            · exact he j (by omega)) c5
        · exact ⟨25, _, 0, Or.inl rfl, Or.inr ⟨rfl, fun q => hv (q.2 i (by omega))⟩, c4.trans (by
            refine XS.icmpNo X0.here hexec rfl (hb hbytes d21) rfl (ii_eq_f hv) ?_
            refine iconstV X0.here hexec rfl 0 (hb hbytes d24) (by decide) ?_
            exact Steps.refl _)⟩
    obtain ⟨pc, Ls, v, hpc, hv, cz⟩ := loop A.slots.size 0 (by omega) (fun j hj => absurd hj (Nat.not_lt_zero j)) c3
    have nv : narrow .boolean (.int v) = .int v := by rcases hv with ⟨rfl, -⟩ | ⟨rfl, -⟩ <;> rfl
    rcases hpc with rfl | rfl
    · exact ⟨s₁, some (.int v), _, _, _, X0, rfl, rfl, rfl, (fun h => by cases h), ⟨v, rfl, hh0, hv⟩, fun fs hl => cz.trans (X0.ireturnOut hexec hret nv (Or.inr (Or.inl rfl)) (hb hbytes d25) hl)⟩
    · exact ⟨s₁, some (.int v), _, _, _, X0, rfl, rfl, rfl, (fun h => by cases h), ⟨v, rfl, hh0, hv⟩, fun fs hl => cz.trans (X0.ireturnOut hexec hret nv (Or.inr (Or.inl rfl)) (hb hbytes d33) hl)⟩
  · have c3 : Steps p.tables e below (s₁.setTop (entryFrame m #[.ref a, .ref b] 3)) (s₁.setTop (mkF m 35 #[.val (.ref a), .val (.ref b), .unset] [.int 0])) := c2.trans (by
      refine XS.icmpYes X0.here hexec rfl (pc0 := 4) rfl (hb hbytes d4) rfl (ii_ne_t (ne32 a31 b31 hs)) (by decide) rfl ?_
      refine iconstV X0.here hexec rfl 0 (hb hbytes d34) (by decide) ?_
      exact Steps.refl _)
    exact ⟨s₁, some (.int 0), _, _, _, X0, rfl, rfl, rfl, (fun h => by cases h), ⟨0, rfl, hh0, Or.inr ⟨rfl, fun q => hs q.1⟩⟩, fun fs hl => c3.trans (X0.ireturnOut hexec hret rfl (Or.inr (Or.inl rfl)) (hb hbytes d35) hl)⟩
end LEq
theorem Cod.ty {cd : Int32} {n : Nat} {f : Nat → Int32} {V : Cell} (h : Cod cd n f V) : Typed .byte V := fun i v hv => by
  have hi : i < V.slots.size := (Array.getElem?_eq_some_iff.mp hv).1
  rcases h with ⟨-, k1, k2⟩ | ⟨-, k1, k2, -⟩
  · rw [(k2 i (by omega)).1] at hv; cases hv; exact fits_lo8 _
  · rcases Nat.mod_two_eq_zero_or_one i with e | e
    · obtain ⟨j, rfl⟩ : ∃ j, i = 2 * j := ⟨i / 2, by omega⟩
      rw [(k2 j (by omega)).1] at hv; cases hv; exact fits_lo8 _
    · obtain ⟨j, rfl⟩ : ∃ j, i = 2 * j + 1 := ⟨i / 2, by omega⟩
      rw [(k2 j (by omega)).2] at hv; cases hv; exact fits_lo8 _
/-- the same text -/
def SameT (n : Nat) (f : Nat → Int32) (k : Nat) (g : Nat → Int32) : Prop := n = k ∧ ∀ j, j < n → f j = g j
theorem lo8_inj {x y : Int32} (h0 : ¬ x < 0) (h1 : ¬ 255 < x) (k0 : ¬ y < 0) (k1 : ¬ 255 < y) (h : lo8 x = lo8 y) : x = y := by
  rw [← lo8_mask h0 h1, ← lo8_mask k0 k1, h]
/-- arrays coded by one coder are equal just where the texts are -/
theorem Cod.eqv {cd : Int32} {n k : Nat} {f g : Nat → Int32} {V V' : Cell} (h : Cod cd n f V) (h' : Cod cd k g V') (hf : ∀ j, j < n → ¬ f j < 0 ∧ ¬ 65535 < f j) (hg : ∀ j, j < k → ¬ g j < 0 ∧ ¬ 65535 < g j) : EqC V V' ↔ SameT n f k g := by
  have yvv : ∀ {W : Cell} {i : Nat} {x : Int32}, W.slots[i]? = some (.int x) → yv W i = x := fun q => by unfold yv; rw [q]
  rcases h with ⟨rfl, k1, k2⟩ | ⟨rfl, k1, k2, -⟩
  · rcases h' with ⟨-, m1, m2⟩ | ⟨e, -⟩
    · constructor
      · rintro ⟨e1, e2⟩
        refine ⟨by omega, fun j hj => ?_⟩
        have q := e2 j (by omega)
        rw [yvv (k2 j hj).1, yvv (m2 j (by omega)).1] at q
        exact lo8_inj (hf j hj).1 (k2 j hj).2 (hg j (by omega)).1 (m2 j (by omega)).2 q
      · rintro ⟨rfl, e2⟩
        refine ⟨by omega, fun j hj => ?_⟩
        rw [yvv (k2 j (by omega)).1, yvv (m2 j (by omega)).1, e2 j (by omega)]
    · exact absurd e (by decide)
  · rcases h' with ⟨e, -⟩ | ⟨-, m1, m2, -⟩
    · exact absurd e (by decide)
    · constructor
      · rintro ⟨e1, e2⟩
        refine ⟨by omega, fun j hj => ?_⟩
        have q1 := e2 (2 * j) (by omega)
        have q2 := e2 (2 * j + 1) (by omega)
        rw [yvv (k2 j hj).1, yvv (m2 j (by omega)).1] at q1
        rw [yvv (k2 j hj).2, yvv (m2 j (by omega)).2] at q2
        rw [← pair_says (hf j hj).1 (hf j hj).2, ← pair_says (hg j (by omega)).1 (hg j (by omega)).2, q1, q2]
      · rintro ⟨rfl, e2⟩
        refine ⟨by omega, fun i hi => ?_⟩
        rcases Nat.mod_two_eq_zero_or_one i with e | e
        · obtain ⟨j, rfl⟩ : ∃ j, i = 2 * j := ⟨i / 2, by omega⟩
          rw [yvv (k2 j (by omega)).1, yvv (m2 j (by omega)).1, e2 j (by omega)]
        · obtain ⟨j, rfl⟩ : ∃ j, i = 2 * j + 1 := ⟨i / 2, by omega⟩
          rw [yvv (k2 j (by omega)).2, yvv (m2 j (by omega)).2, e2 j (by omega)]
/-- two codings differ: so do the texts -/
theorem Cod.dif {cd cd' : Int32} {n k : Nat} {f g : Nat → Int32} {V V' : Cell} (h : Cod cd n f V) (h' : Cod cd' k g V') (hne : ¬ cd = cd') : ¬ SameT n f k g := by
  rintro ⟨rfl, e⟩
  rcases h with ⟨rfl, -, k2⟩ | ⟨rfl, -, -, j, hj, hw⟩
  · rcases h' with ⟨rfl, -⟩ | ⟨-, -, -, j, hj, hw⟩
    · exact hne rfl
    · exact (k2 j hj).2 (by rw [e j hj]; exact hw)
  · rcases h' with ⟨-, -, m2⟩ | ⟨rfl, -⟩
    · exact (m2 j hj).2 (by rw [← e j hj]; exact hw)
    · exact hne rfl
/-- an object of exactly C is an instance of C -/
theorem cinst {p : Program} {l : Launch} {e : Env} {R : Room} {s : State} {m : MethodId} {args : Array Value} {below : List Frame} {meth : Method} {c : Code} {T : State} {locs : List Loc} {cells slots : Nat} (X : Stand p l e R s m args below meth c T locs cells slots) (hexec : p.tables.exec = Jvm.exec) {own C : String} {index : Nat} (hown : s.vm.findClass own = some m.cls) (hlink : (Cond.classLink own index C).before args s = true) {a : Addr} (hE : Exact C a T)
    {g : JFrame} (hg : g.method = m) {rest : List Value} (hstack : g.stack = .ref a :: rest) (hdg : decode c.code g.pc = .ok (.instanceof index, 3)) :
    ∃ T', Stand p l e R s m args below meth c T' locs cells slots ∧ T'.heap = T.heap ∧ ∀ target, Steps p.tables e below (T'.setTop { g with pc := g.pc + 3, stack := .int 1 :: rest }) target → Steps p.tables e below (T.setTop g) target := by
  obtain ⟨cB, h1, D, h2, h3, h4⟩ := hE
  have h1' : s.vm.findClass C = some cB := by rw [← X.warmed.alike.findClass]; exact h1
  obtain ⟨vm', X', st⟩ := X.instanceofYes hexec hown hlink h2 h4 h1' (by rw [h3]; exact Jvm.Free.SB.assignable_self _ _) hg hstack hdg
  exact ⟨_, X', rfl, st⟩
theorem cself {p : Program} {l : Launch} {e : Env} {R : Room} {s : State} {m : MethodId} {args : Array Value} {below : List Frame} {meth : Method} {c : Code} {T : State} {locs : List Loc} {cells slots : Nat} (X : Stand p l e R s m args below meth c T locs cells slots) (hexec : p.tables.exec = Jvm.exec) {own C : String} {index : Nat} (hown : s.vm.findClass own = some m.cls) (hlink : (Cond.classLink own index C).before args s = true) {a : Addr} (hE : Exact C a T)
    {g : JFrame} (hg : g.method = m) {rest : List Value} (hstack : g.stack = .ref a :: rest) (hdg : decode c.code g.pc = .ok (.checkcast index, 3)) :
    ∃ T', Stand p l e R s m args below meth c T' locs cells slots ∧ T'.heap = T.heap ∧ ∀ target, Steps p.tables e below (T'.setTop { g with pc := g.pc + 3, stack := .ref a :: rest }) target → Steps p.tables e below (T.setTop g) target := by
  obtain ⟨cB, h1, D, h2, h3, h4⟩ := hE
  have h1' : s.vm.findClass C = some cB := by rw [← X.warmed.alike.findClass]; exact h1
  obtain ⟨vm', X', st⟩ := X.checkcastYes hexec hown hlink h2 h4 h1' (by rw [h3]; exact Jvm.Free.SB.assignable_self _ _) hg hstack hdg
  exact ⟨_, X', rfl, fun t h => st t (by rw [← hstack] at h; exact h)⟩
namespace SEq
def yN : MethodName := ⟨"java/lang/String", "equals", "(Ljava/lang/Object;)Z"⟩
abbrev yB : ByteArray := jdk_42_method_66_code
theorem d0 : decode yB 0 = .ok (.aload_n 0, 1) := by decide +kernel
theorem d1 : decode yB 1 = .ok (.aload_n 1, 1) := by decide +kernel
theorem d2 : decode yB 2 = .ok (.if_acmp (.ne) 5, 3) := by decide +kernel
theorem d5 : decode yB 5 = .ok (.iconst 1, 1) := by decide +kernel
theorem d6 : decode yB 6 = .ok (.ireturn, 1) := by decide +kernel
theorem d7 : decode yB 7 = .ok (.aload_n 1, 1) := by decide +kernel
theorem d8 : decode yB 8 = .ok (.instanceof 10, 3) := by decide +kernel
theorem d11 : decode yB 11 = .ok (.ifCond (.eq) 43, 3) := by decide +kernel
theorem d14 : decode yB 14 = .ok (.aload_n 1, 1) := by decide +kernel
theorem d15 : decode yB 15 = .ok (.checkcast 10, 3) := by decide +kernel
theorem d18 : decode yB 18 = .ok (.astore_n 2, 1) := by decide +kernel
theorem d19 : decode yB 19 = .ok (.getstatic 38, 3) := by decide +kernel
theorem d22 : decode yB 22 = .ok (.ifCond (.eq) 14, 3) := by decide +kernel
theorem d25 : decode yB 25 = .ok (.aload_n 0, 1) := by decide +kernel
theorem d26 : decode yB 26 = .ok (.getfield 15, 3) := by decide +kernel
theorem d29 : decode yB 29 = .ok (.aload_n 2, 1) := by decide +kernel
theorem d30 : decode yB 30 = .ok (.getfield 15, 3) := by decide +kernel
theorem d33 : decode yB 33 = .ok (.if_icmp (.ne) 21, 3) := by decide +kernel
theorem d36 : decode yB 36 = .ok (.aload_n 0, 1) := by decide +kernel
theorem d37 : decode yB 37 = .ok (.getfield 9, 3) := by decide +kernel
theorem d40 : decode yB 40 = .ok (.aload_n 2, 1) := by decide +kernel
theorem d41 : decode yB 41 = .ok (.getfield 9, 3) := by decide +kernel
theorem d44 : decode yB 44 = .ok (.invokestatic 541, 3) := by decide +kernel
theorem d47 : decode yB 47 = .ok (.ifCond (.eq) 7, 3) := by decide +kernel
theorem d50 : decode yB 50 = .ok (.iconst 1, 1) := by decide +kernel
theorem d51 : decode yB 51 = .ok (.goto 4, 3) := by decide +kernel
theorem d54 : decode yB 54 = .ok (.iconst 0, 1) := by decide +kernel
theorem d55 : decode yB 55 = .ok (.ireturn, 1) := by decide +kernel
def site : List Cond := [.classLink "java/lang/String" 10 "java/lang/String", .fieldLink "java/lang/String" 38 "java/lang/String" "COMPACT_STRINGS" "Z", .fieldLink "java/lang/String" 15 "java/lang/String" "coder" "B", .fieldLink "java/lang/String" 9 "java/lang/String" "value" "[B", LEq.tab] ++ staticW "java/lang/String" 541 LEq.yN
def tab : Cond := tabOf yN yB 3 (some .boolean) site
def P (x t : Addr) (V : Cell) (cd : Int32) (n : Nat) (f : Nat → Int32) (y t' : Addr) (V' : Cell) (cd' : Int32) (k : Nat) (g : Nat → Int32) (z : Int32) (args : Array Value) (s : State) : Prop := args = #[.ref x, .ref y] ∧ Txt x t V cd n f s ∧ Txt y t' V' cd' k g s ∧ StaticIs s "java/lang/String" "COMPACT_STRINGS" "Z" (.int z) ∧ ¬ z = 0
/-- equals(Object) of two Strings: whether the texts are the same -/
theorem law (l : Launch) (x t : Addr) (V : Cell) (cd : Int32) (n : Nat) (f : Nat → Int32) (y t' : Addr) (V' : Cell) (cd' : Int32) (k : Nat) (g : Nat → Int32) (z : Int32) : Law l yN 2 1 1 14 yB 3 (some .boolean) site (P x t V cd n f y t' V' cd' k g z) (Says01 (SameT n f k g)) [] 0 0 := by
  refine Law.of_walk (plainFor_of_name (by decide +kernel)) (by decide +kernel) (by decide +kernel) (by decide) (fun _ _ h => by rw [h.1]; rfl) (fun _ U U' hal hh h => ⟨h.1, h.2.1.mv hal hh, h.2.2.1.mv hal hh, h.2.2.2.1.there hal hh, h.2.2.2.2⟩) (fun r U U' V V' h1 hal h2 h => Says01.mv r U U' V V' h1 hal h2 h) ?_
  intro p e s m args below meth c s₁ X0 hexec hbytes hml hret hlk hnm hown hh0 W hP
  obtain ⟨rfl, hx, hy, s1, hz⟩ := hP
  have c1 : Steps p.tables e below (s₁.setTop (entryFrame m #[.ref x, .ref y] 3)) (s₁.setTop (mkF m 2 #[.val (.ref x), .val (.ref y), .unset] [.ref y, .ref x])) := Steps.trans (entry rfl) (by
    show Steps p.tables e below (s₁.setTop (mkF m 0 #[.val (.ref x), .val (.ref y), .unset] [])) _
    refine XS.aloadN X0.here hexec rfl (hb hbytes d0) rfl rfl ?_
    refine XS.aloadN X0.here hexec rfl (hb hbytes d1) rfl rfl ?_
    exact Steps.refl _)
  by_cases hxy : x = y
  · have c2 : Steps p.tables e below (s₁.setTop (entryFrame m #[.ref x, .ref y] 3)) (s₁.setTop (mkF m 6 #[.val (.ref x), .val (.ref y), .unset] [.int 1])) := c1.trans (by
      refine acmpNo X0.here hexec rfl (hb hbytes d2) rfl rfl rfl (by simp [acmp, hxy]) ?_
      refine iconstV X0.here hexec rfl 1 (hb hbytes d5) (by decide) ?_
      exact Steps.refl _)
    subst hxy
    have ec : cd = cd' := by
      obtain ⟨D, fd, a1, a2, a3⟩ := hx.2.2.1
      obtain ⟨D', fd', b1, b2, b3⟩ := hy.2.2.1
      cases a1.symm.trans b1
      obtain ⟨q1, q2, q3, q4⟩ := a2.1
      obtain ⟨r1, r2, r3, r4⟩ := b2.1
      cases q4.symm.trans r4
      cases a3.symm.trans b3; rfl
    have et : t = t' := by
      obtain ⟨D, fd, a1, a2, a3⟩ := hx.2.1
      obtain ⟨D', fd', b1, b2, b3⟩ := hy.2.1
      cases a1.symm.trans b1
      obtain ⟨q1, q2, q3, q4⟩ := a2.1
      obtain ⟨r1, r2, r3, r4⟩ := b2.1
      cases q4.symm.trans r4
      cases a3.symm.trans b3; rfl
    subst ec et
    have ev : V = V' := by cases hx.2.2.2.1.1.symm.trans hy.2.2.2.1.1; rfl
    subst ev
    have hs : SameT n f k g := (Cod.eqv hx.2.2.2.2.1 hy.2.2.2.2.1 hx.2.2.2.2.2 hy.2.2.2.2.2).mp ⟨rfl, fun _ _ => rfl⟩
    exact ⟨s₁, some (.int 1), _, _, _, X0, rfl, rfl, rfl, (fun h => by cases h), ⟨1, rfl, hh0, Or.inl ⟨rfl, hs⟩⟩, fun fs hl => c2.trans (X0.ireturnOut hexec hret rfl (Or.inr (Or.inl rfl)) (hb hbytes d6) hl)⟩
  · have c2 : Steps p.tables e below (s₁.setTop (entryFrame m #[.ref x, .ref y] 3)) (s₁.setTop (mkF m 8 #[.val (.ref x), .val (.ref y), .unset] [.ref y])) := c1.trans (by
      refine acmpYes X0.here hexec rfl (pc0 := 2) rfl (hb hbytes d2) rfl rfl rfl (by simp [acmp, hxy]) (by decide) rfl ?_
      refine XS.aloadN X0.here hexec rfl (hb hbytes d7) rfl rfl ?_
      exact Steps.refl _)
    obtain ⟨T3, X3, q3, st3⟩ := cinst X0 hexec hown (wk W (.classLink "java/lang/String" 10 "java/lang/String")) (hy.mv X0.warmed.alike hh0).1 (g := (mkF m 8 #[.val (.ref x), .val (.ref y), .unset] [.ref y])) rfl (rest := []) rfl (hb hbytes d8)
    have hh3 := q3.trans hh0
    have c4 : Steps p.tables e below (s₁.setTop (entryFrame m #[.ref x, .ref y] 3)) (T3.setTop (mkF m 15 #[.val (.ref x), .val (.ref y), .unset] [.ref y])) := (c2.trans (st3 _ (Steps.refl _))).trans (by
      refine XS.ifNo X3.here hexec rfl (hb hbytes d11) rfl (i0_eq_f (by decide)) ?_
      refine XS.aloadN X3.here hexec rfl (hb hbytes d14) rfl rfl ?_
      exact Steps.refl _)
    obtain ⟨T5, X5, q5, st5⟩ := cself X3 hexec hown (wk W (.classLink "java/lang/String" 10 "java/lang/String")) (hy.mv X3.warmed.alike hh3).1 (g := (mkF m 15 #[.val (.ref x), .val (.ref y), .unset] [.ref y])) rfl (rest := []) rfl (hb hbytes d15)
    have hh5 := q5.trans hh3
    have c6 : Steps p.tables e below (s₁.setTop (entryFrame m #[.ref x, .ref y] 3)) (T5.setTop (mkF m 19 #[.val (.ref x), .val (.ref y), .val (.ref y)] [])) := (c4.trans (st5 _ (Steps.refl _))).trans (by
      refine XS.astoreN X5.here hexec rfl (hb hbytes d18) rfl rfl rfl ?_
      exact Steps.refl _)
    obtain ⟨T7, X7, q7, st7⟩ := X5.sget hexec hown (wk W (.fieldLink "java/lang/String" 38 "java/lang/String" "COMPACT_STRINGS" "Z")) s1 (fun _ _ h => by rw [hh5]; exact h) (g := (mkF m 19 #[.val (.ref x), .val (.ref y), .val (.ref y)] [])) rfl (hb hbytes d19)
    have hh7 := q7.trans hh5
    have c8 : Steps p.tables e below (s₁.setTop (entryFrame m #[.ref x, .ref y] 3)) (T7.setTop (mkF m 26 #[.val (.ref x), .val (.ref y), .val (.ref y)] [.ref x])) := (c6.trans (st7 _ (Steps.refl _))).trans (by
      refine XS.ifNo X7.here hexec rfl (hb hbytes d22) rfl (i0_eq_f hz) ?_
      refine XS.aloadN X7.here hexec rfl (hb hbytes d25) rfl rfl ?_
      exact Steps.refl _)
    obtain ⟨T9, X9, q9, st9⟩ := X7.hget hexec hown (wk W (.fieldLink "java/lang/String" 15 "java/lang/String" "coder" "B")) (hx.mv X7.warmed.alike hh7).2.2.1 (g := (mkF m 26 #[.val (.ref x), .val (.ref y), .val (.ref y)] [.ref x])) rfl (rest := []) rfl (hb hbytes d26)
    have hh9 := q9.trans hh7
    have c10 : Steps p.tables e below (s₁.setTop (entryFrame m #[.ref x, .ref y] 3)) (T9.setTop (mkF m 30 #[.val (.ref x), .val (.ref y), .val (.ref y)] [.ref y, .int cd])) := (c8.trans (st9 _ (Steps.refl _))).trans (by
      refine XS.aloadN X9.here hexec rfl (hb hbytes d29) rfl rfl ?_
      exact Steps.refl _)
    obtain ⟨T11, X11, q11, st11⟩ := X9.hget hexec hown (wk W (.fieldLink "java/lang/String" 15 "java/lang/String" "coder" "B")) (hy.mv X9.warmed.alike hh9).2.2.1 (g := (mkF m 30 #[.val (.ref x), .val (.ref y), .val (.ref y)] [.ref y, .int cd])) rfl (rest := [.int cd]) rfl (hb hbytes d30)
    have hh11 := q11.trans hh9
    have c12 : Steps p.tables e below (s₁.setTop (entryFrame m #[.ref x, .ref y] 3)) (T11.setTop (mkF m 33 #[.val (.ref x), .val (.ref y), .val (.ref y)] [.int cd', .int cd])) := c10.trans (st11 _ (Steps.refl _))
    by_cases hcd : cd = cd'
    · subst hcd
      have c13 : Steps p.tables e below (s₁.setTop (entryFrame m #[.ref x, .ref y] 3)) (T11.setTop (mkF m 37 #[.val (.ref x), .val (.ref y), .val (.ref y)] [.ref x])) := c12.trans (by
        refine XS.icmpNo X11.here hexec rfl (hb hbytes d33) rfl (ii_ne_f rfl) ?_
        refine XS.aloadN X11.here hexec rfl (hb hbytes d36) rfl rfl ?_
        exact Steps.refl _)
      obtain ⟨T14, X14, q14, st14⟩ := X11.hget hexec hown (wk W (.fieldLink "java/lang/String" 9 "java/lang/String" "value" "[B")) (hx.mv X11.warmed.alike hh11).2.1 (g := (mkF m 37 #[.val (.ref x), .val (.ref y), .val (.ref y)] [.ref x])) rfl (rest := []) rfl (hb hbytes d37)
      have hh14 := q14.trans hh11
      have c15 : Steps p.tables e below (s₁.setTop (entryFrame m #[.ref x, .ref y] 3)) (T14.setTop (mkF m 41 #[.val (.ref x), .val (.ref y), .val (.ref y)] [.ref y, .ref t])) := (c13.trans (st14 _ (Steps.refl _))).trans (by
        refine XS.aloadN X14.here hexec rfl (hb hbytes d40) rfl rfl ?_
        exact Steps.refl _)
      obtain ⟨T16, X16, q16, st16⟩ := X14.hget hexec hown (wk W (.fieldLink "java/lang/String" 9 "java/lang/String" "value" "[B")) (hy.mv X14.warmed.alike hh14).2.1 (g := (mkF m 41 #[.val (.ref x), .val (.ref y), .val (.ref y)] [.ref y, .ref t])) rfl (rest := [.ref t]) rfl (hb hbytes d41)
      have hh16 := q16.trans hh14
      have c17 : Steps p.tables e below (s₁.setTop (entryFrame m #[.ref x, .ref y] 3)) (T16.setTop (mkF m 44 #[.val (.ref x), .val (.ref y), .val (.ref y)] [.ref t', .ref t])) := c15.trans (st16 _ (Steps.refl _))
      obtain ⟨v18, T18, X18, E18, g18⟩ := X16.callS hexec (LEq.law l t V t' V') hown (wks W (staticW "java/lang/String" 541 LEq.yN)) (wk W LEq.tab) (W := 0) (Nat.le_of_ble_eq_true rfl) (Nat.le_of_ble_eq_true rfl) (Nat.le_refl _) (Nat.le_refl _) (g := (mkF m 44 #[.val (.ref x), .val (.ref y), .val (.ref y)] [.ref t', .ref t])) rfl (by rw [hml]; rfl) c17 (argsL := [.ref t, .ref t']) (rest := []) rfl rfl (by show 2 * 0 + 0 ≤ _; decide) (hb hbytes d44) (⟨rfl, hx.2.2.2.1.mv X16.warmed.alike hh16, hx.2.2.2.2.1.ty, hy.2.2.2.1.mv X16.warmed.alike hh16, hy.2.2.2.2.1.ty⟩)
      obtain ⟨v, rfl, q18, hv⟩ := E18
      have iff := Cod.eqv hx.2.2.2.2.1 hy.2.2.2.2.1 hx.2.2.2.2.2 hy.2.2.2.2.2
      rcases hv with ⟨rfl, he⟩ | ⟨rfl, he⟩
      · have c19 : Steps p.tables e below (s₁.setTop (entryFrame m #[.ref x, .ref y] 3)) (T18.setTop (mkF m 55 #[.val (.ref x), .val (.ref y), .val (.ref y)] [.int 1])) := Steps.trans g18 (by
          refine XS.ifNo X18.here hexec rfl (hb hbytes d47) rfl (i0_eq_f (by decide)) ?_
          refine iconstV X18.here hexec rfl 1 (hb hbytes d50) (by decide) ?_
          refine XS.goto X18.here hexec rfl (pc0 := 51) rfl (hb hbytes d51) (by decide) rfl ?_
          exact Steps.refl _)
        exact ⟨T18, some (.int 1), _, _, _, X18, rfl, rfl, rfl, (fun h => by cases h), ⟨1, rfl, q18.trans hh16, Or.inl ⟨rfl, iff.mp he⟩⟩, fun fs hl => c19.trans (X18.ireturnOut hexec hret rfl (Or.inr (Or.inl rfl)) (hb hbytes d55) hl)⟩
      · have c19 : Steps p.tables e below (s₁.setTop (entryFrame m #[.ref x, .ref y] 3)) (T18.setTop (mkF m 55 #[.val (.ref x), .val (.ref y), .val (.ref y)] [.int 0])) := Steps.trans g18 (by
          refine XS.ifYes X18.here hexec rfl (pc0 := 47) rfl (hb hbytes d47) rfl (i0_eq_t rfl) (by decide) rfl ?_
          refine iconstV X18.here hexec rfl 0 (hb hbytes d54) (by decide) ?_
          exact Steps.refl _)
        exact ⟨T18, some (.int 0), _, _, _, X18, rfl, rfl, rfl, (fun h => by cases h), ⟨0, rfl, q18.trans hh16, Or.inr ⟨rfl, fun q => he (iff.mpr q)⟩⟩, fun fs hl => c19.trans (X18.ireturnOut hexec hret rfl (Or.inr (Or.inl rfl)) (hb hbytes d55) hl)⟩
    · have c13 : Steps p.tables e below (s₁.setTop (entryFrame m #[.ref x, .ref y] 3)) (T11.setTop (mkF m 55 #[.val (.ref x), .val (.ref y), .val (.ref y)] [.int 0])) := c12.trans (by
        refine XS.icmpYes X11.here hexec rfl (pc0 := 33) rfl (hb hbytes d33) rfl (ii_ne_t hcd) (by decide) rfl ?_
        refine iconstV X11.here hexec rfl 0 (hb hbytes d54) (by decide) ?_
        exact Steps.refl _)
      exact ⟨T11, some (.int 0), _, _, _, X11, rfl, rfl, rfl, (fun h => by cases h), ⟨0, rfl, hh11, Or.inr ⟨rfl, Cod.dif hx.2.2.2.2.1 hy.2.2.2.2.1 hcd⟩⟩, fun fs hl => c13.trans (X11.ireturnOut hexec hret rfl (Or.inr (Or.inl rfl)) (hb hbytes d55) hl)⟩
theorem pays {l : Launch} {R : Room} {p : Program} {e : Env} {below : List Frame} {s : State} {sargs : Array Value} {len W : Nat} (x t : Addr) (V : Cell) (cd : Int32) (n : Nat) (f : Nat → Int32) (y t' : Addr) (V' : Cell) (cd' : Int32) (k : Nat) (g : Nat → Int32) (z : Int32) (htab : tab.before sargs s = true) (hfr : 2 ≤ R.frames) (hlo : W + 28 ≤ R.locals) :
    Back l R p e below s sargs yN len W (fun A₁ a₁ => A₁.cells + 0 ≤ R.cells ∧ A₁.slots + 0 ≤ R.slots ∧ P x t V cd n f y t' V' cd' k g z a₁ A₁.U) (fun A₁ _ v₁ B₁ => Says01 (SameT n f k g) v₁ A₁.U B₁.U ∧ B₁.locs = A₁.locs ++ [] ∧ B₁.cells = A₁.cells + 0 ∧ B₁.slots = A₁.slots + 0) :=
  (law l x t V cd n f y t' V' cd' k g z).pays htab hfr (by omega)
end SEq
end StrChars
namespace StrChars.Road
open Jvm Sem ClassFile Op Lib Jvm.Stand Jvm.Free Jvm.Free.XT
open Jvm.Lib.Cold (StaticIs)
/-- the words of String.equals(Object) -/
abbrev wordsEq : List Jvm.Cond := [.code SEq.yN SEq.yB 3 (some .boolean), .initialized ST, .classLink ST 10 ST, .fieldLink ST 38 ST "COMPACT_STRINGS" "Z", .fieldLink ST 15 ST "coder" "B", .fieldLink ST 9 ST "value" "[B", .methodLink ST 541 LEq.yN, .static LEq.yN, .code LEq.yN LEq.yB 3 (some .boolean), .initialized "java/lang/StringLatin1"]
theorem tabEq_of {a : Array Value} {s : State} (h : ∀ w ∈ wordsEq, w.before a s = true) : SEq.tab.before a s = true := by
  have hl : LEq.tab.before a s = true := unparts (wk h (.code LEq.yN LEq.yB 3 (some .boolean))) (wks h (.initialized LEq.yN.cls :: LEq.site))
  have q := consq hl h
  exact unparts (wk q (.code SEq.yN SEq.yB 3 (some .boolean))) (wks q (.initialized SEq.yN.cls :: SEq.site))
theorem movedEq {Z s : State} {a0 args : Array Value} (hZ : Z.Warmed39 s.vm) (hw : ∀ d ∈ wordsEq, d.before a0 Z = true) : ∀ d ∈ wordsEq, d.before args s = true := fun d hd => by
  have t : ∀ d ∈ wordsEq, (d.onTables && d.keepsFace) = true := by decide +kernel
  exact RoadKit.mv hZ (hw d hd) (t d hd)
/-- the road's facts of a String, as the laws ask it -/
theorem txt_of {Z U : State} {a0 : Array Value} {kI : Nat} (wi : (Jvm.Cond.instantiable ST kI).before a0 Z = true) (al : Z.vm.Alike U.vm) {x t : Addr} {kb : ClassId} {cs : List Int32} {cd N2 : Int32} {vs : List Value} (E : RoadKit.Exa Z U.heap x ST) (V : RoadKit.Fld Z U.heap x ST "value" "[B" (.ref t)) (C : RoadKit.Fld Z U.heap x ST "coder" "B" (.int cd)) (K : RoadKit.Arv Z U.heap t kb .byte N2 vs (.int 0)) (hc : CodA cs cd N2 vs) (hb : ∀ c ∈ cs, ¬ c < 0 ∧ ¬ (65535 : Int32) < c) (l2 : cs.length ≤ 4000) :
    ∃ A, Txt x t A cd cs.length (fun j => cs.getD j 0) U := by
  obtain ⟨A, K1, K2, K3, K4, K5, K6⟩ := K
  have hcod := hc.cod (by omega) K3 K5
  obtain ⟨D, fV, fC, hB, F1, F2, g1, g2, -, -⟩ := strObj wi al E V C
  exact ⟨A, ⟨_, hB.2.2.1, D, hB.1, rfl, by cases q : D.vm <;> first | rfl | exact absurd q (hB.2.1.2 _)⟩, Has.of hB F1 g1, Has.of hB F2 g2, ⟨K1.1, State.isArrayOf_alike al K1.2.1, K1.2.2, by rcases hcod with ⟨-, q, -⟩ | ⟨-, q, -⟩ <;> omega⟩, hcod, fun j hj => by
    have e : cs.getD j 0 = cs[j] := by simp [List.getD_eq_getElem?_getD, hj]
    show ¬ cs.getD j 0 < 0 ∧ ¬ 65535 < cs.getD j 0
    rw [e]; exact hb _ (List.getElem_mem _)⟩
theorem same_list (cs ds : List Int32) : SameT cs.length (fun j => cs.getD j 0) ds.length (fun j => ds.getD j 0) ↔ cs = ds := by
  constructor
  · rintro ⟨e, q⟩
    refine List.ext_getElem e fun j h1 h2 => ?_
    have := q j h1
    simpa [List.getD_eq_getElem?_getD, h1, h2] using this
  · rintro rfl
    exact ⟨rfl, fun _ _ => rfl⟩
/-- **equals(Object) OF TWO SUCH STRINGS**: 1 just where the chars are the same -/
theorem eqW {p : Program} {l : Launch} {e : Env} {R : Room} {s : State} {args : Array Value} {below : List Frame} {len W : Nat} {Z : State} {a0 : Array Value} {h : Heap} (hZ : Z.Warmed39 s.vm) (hw : ∀ d ∈ wordsEq, d.before a0 Z = true) {kI : Nat} (wi : (Jvm.Cond.instantiable ST kI).before a0 Z = true)
    {x t : Addr} {kb : ClassId} {cs : List Int32} {cd N2 : Int32} {vs : List Value} (E : RoadKit.Exa Z h x ST) (V : RoadKit.Fld Z h x ST "value" "[B" (.ref t)) (C : RoadKit.Fld Z h x ST "coder" "B" (.int cd)) (K : RoadKit.Arv Z h t kb .byte N2 vs (.int 0)) (hc : CodA cs cd N2 vs) (hb : ∀ c ∈ cs, ¬ c < 0 ∧ ¬ (65535 : Int32) < c) (l2 : cs.length ≤ 4000)
    {y t' : Addr} {kb' : ClassId} {ds : List Int32} {cd' N2' : Int32} {vs' : List Value} (E' : RoadKit.Exa Z h y ST) (V' : RoadKit.Fld Z h y ST "value" "[B" (.ref t')) (C' : RoadKit.Fld Z h y ST "coder" "B" (.int cd')) (K' : RoadKit.Arv Z h t' kb' .byte N2' vs' (.int 0)) (hc' : CodA ds cd' N2' vs') (hb' : ∀ c ∈ ds, ¬ c < 0 ∧ ¬ (65535 : Int32) < c) (l2' : ds.length ≤ 4000)
    {z : Int32} (S : RoadKit.Sta Z h ST "COMPACT_STRINGS" "Z" (.int z)) (hz : ¬ z = 0) (hfr : 2 ≤ R.frames) (hlo : W + 28 ≤ R.locals) :
    Back l R p e below s args (⟨"java/lang/String", "equals", "(Ljava/lang/Object;)Z"⟩ : MethodName) len W (fun P a => a = #[.ref x, .ref y] ∧ P.U.heap = h ∧ P.cells + 0 ≤ R.cells ∧ P.slots + 0 ≤ R.slots)
      (fun P _ v B => ∃ L, (((v = some (.int 1) ∧ cs = ds) ∨ (v = some (.int 0) ∧ ¬ cs = ds)) ∧ L = [] ∧ B.U.heap = h) ∧ B.locs = P.locs ++ L ∧ B.cells = P.cells + 0 ∧ B.slots = P.slots + 0) := by
  intro m meth c P g ig mk a X hg hsize hdg hW hn hp'
  obtain ⟨rfl, rfl, r1, r2⟩ := hp'
  have al : Z.vm.Alike P.U.vm := hZ.alike.trans X.warmed.alike
  obtain ⟨A, hx⟩ := txt_of wi al E V C K hc hb l2
  obtain ⟨A', hy⟩ := txt_of wi al E' V' C' K' hc' hb' l2'
  obtain ⟨v, B, X', ⟨⟨w, hv, hh, hq⟩, hl, hk, hs⟩, st⟩ := SEq.pays x t A cd cs.length (fun j => cs.getD j 0) y t' A' cd' ds.length (fun j => ds.getD j 0) z (tabEq_of (movedEq hZ hw)) hfr hlo m meth c P g ig mk _ X hg hsize hdg hW hn ⟨r1, r2, rfl, hx, hy, sta_is al S, hz⟩
  refine ⟨v, B, X', ⟨[], ⟨?_, rfl, hh⟩, hl, hk, hs⟩, st⟩
  rcases hq with ⟨rfl, q⟩ | ⟨rfl, q⟩
  · exact Or.inl ⟨hv, (same_list cs ds).mp q⟩
  · exact Or.inr ⟨hv, fun e => q ((same_list cs ds).mpr e)⟩
end StrChars.Road
namespace StrChars.Road
open Jvm Sem ClassFile Op Lib Jvm.Stand Jvm.Free Jvm.Free.XT
open Jvm.Lib.Cold (StaticIs)
/-- what backV says of its String, as the contracts of this text ask it: cs's low bytes, coder 0 -/
theorem codOf {cs : List Int32} {n : Nat} (hn : cs.length = n) (hb : ∀ c ∈ cs, ¬ 255 < c) : CodA cs 0 (Int32.ofNat n) ((cs.map lo8).map Value.int) := Or.inl ⟨rfl, by rw [hn], by simp [List.map_map, Function.comp_def], hb⟩
end StrChars.Road
end Jvm.Pilot.@@N@@

namespace Jvm.Pilot.@@N@@
open Jvm Jvm.ClassFile Sem Op Lib Jvm.Free Jvm.Stand Jvm.LawKit Jvm.RoadKit Bundle Jvm.Pilot.@@N@@.Jvm.D
section OwnKit
variable {p : Program} {l : Launch} {e : Env} {R : Room} {s : State} {m : MethodId} {args : Array Value} {below : List Frame} {meth : Method} {c : Code} {T : State} {locs : List Loc} {cells slots : Nat} {Z : State} {a0 : Array Value} {h : Heap}
/-- the run from t ends, and Q holds of its end -/
def own_Fin (tb : Tables) (e : Env) (below : List Frame) (Q : Outcome → State → Prop) (t : State) : Prop := ∃ s₂ o, Steps tb e below t s₂ ∧ s₂.status = .running ∧ Ended s₂ below o ∧ Q o s₂
theorem own_go {tb : Tables} {Q : Outcome → State → Prop} {t t' : State} (k : ∀ z, Steps tb e below t' z → Steps tb e below t z) (f : own_Fin tb e below Q t') : own_Fin tb e below Q t := by
  obtain ⟨s₂, o, h1, h2⟩ := f
  exact ⟨s₂, o, k _ h1, h2⟩
/-- the run from t comes to a state of which G holds -/
def own_Go (tb : Tables) (e : Env) (below : List Frame) (G : State → Prop) (t : State) : Prop := ∃ t', G t' ∧ ∀ z, Steps tb e below t' z → Steps tb e below t z
theorem own_on {tb : Tables} {G : State → Prop} {t t' : State} (k : ∀ z, Steps tb e below t' z → Steps tb e below t z) (f : own_Go tb e below G t') : own_Go tb e below G t := by
  obtain ⟨t₂, h1, h2⟩ := f
  exact ⟨t₂, h1, fun z q => k z (h2 z q)⟩
theorem own_here {tb : Tables} {G : State → Prop} {t : State} (k : G t) : own_Go tb e below G t := ⟨t, k, fun _ q => q⟩
def own_End (s : State) (Q : Option Value → Heap → List Loc → Prop) (C S : Nat) (o : Outcome) (U : State) : Prop := ∃ v L, o = .returned v ∧ Q v U.heap L ∧ FrameEnd s o U L C S
variable {Q : Option Value → Heap → List Loc → Prop} {C S : Nat}
theorem own_retI (X : Stand p l e R s m args below meth c T locs cells slots) (hx : p.tables.exec = Jvm.exec) (hlk : meth.locks = false) {pc : Nat} {Ls : Array Slot} {z : Int32} {rest : List Value} (hret : meth.sig.returnType = some .int) (hd : decode c.code pc = .ok (.ireturn, 1)) (hq : Q (some (.int z)) T.heap locs) (hC : cells ≤ C) (hS : slots ≤ S) :
    own_Fin p.tables e below (own_End s Q C S) (T.setTop (mkF m pc Ls (.int z :: rest))) := by
  obtain ⟨fs, hr, hrun, hended, hW, hsame⟩ := X.leave (v := some (.int z)) (fun h => by rw [hret] at h; cases h) hlk
  exact ⟨_, _, retOut X hx hret rfl (Or.inl ⟨rfl, Or.inl rfl, _, rfl⟩) hd hr, hrun, hended, _, _, rfl, hq, ⟨_, rfl⟩, hW, hsame.mono hC hS⟩
theorem own_retN (X : Stand p l e R s m args below meth c T locs cells slots) (hx : p.tables.exec = Jvm.exec) (hlk : meth.locks = false) {pc : Nat} {Ls : Array Slot} {z : Int32} {rest : List Value} {t : FieldType} (hret : meth.sig.returnType = some t) (ht : t = .boolean ∨ t = .byte ∨ t = .char ∨ t = .short) (hd : decode c.code pc = .ok (.ireturn, 1)) (hq : Q (some (.int (nar t z))) T.heap locs) (hC : cells ≤ C) (hS : slots ≤ S) :
    own_Fin p.tables e below (own_End s Q C S) (T.setTop (mkF m pc Ls (.int z :: rest))) := by
  obtain ⟨fs, hr, hrun, hended, hW, hsame⟩ := X.leave (v := some (.int (nar t z))) (fun h => by rw [hret] at h; cases h) hlk
  exact ⟨_, _, retN X hx hret ht hd hr, hrun, hended, _, _, rfl, hq, ⟨_, rfl⟩, hW, hsame.mono hC hS⟩
theorem own_retJ (X : Stand p l e R s m args below meth c T locs cells slots) (hx : p.tables.exec = Jvm.exec) (hlk : meth.locks = false) {pc : Nat} {Ls : Array Slot} {z : Int64} {rest : List Value} (hret : meth.sig.returnType = some .long) (hd : decode c.code pc = .ok (.lreturn, 1)) (hq : Q (some (.long z)) T.heap locs) (hC : cells ≤ C) (hS : slots ≤ S) :
    own_Fin p.tables e below (own_End s Q C S) (T.setTop (mkF m pc Ls (.long z :: rest))) := by
  obtain ⟨fs, hr, hrun, hended, hW, hsame⟩ := X.leave (v := some (.long z)) (fun h => by rw [hret] at h; cases h) hlk
  exact ⟨_, _, retOut X hx hret rfl (Or.inr (Or.inl ⟨rfl, rfl, _, rfl⟩)) hd hr, hrun, hended, _, _, rfl, hq, ⟨_, rfl⟩, hW, hsame.mono hC hS⟩
theorem own_retA (X : Stand p l e R s m args below meth c T locs cells slots) (hx : p.tables.exec = Jvm.exec) (hlk : meth.locks = false) {pc : Nat} {Ls : Array Slot} {w : Value} {rest : List Value} {t : FieldType} (hret : meth.sig.returnType = some t) (ht : t.isReference = true) (hw : w.isRef = true) (hd : decode c.code pc = .ok (.areturn, 1)) (hq : Q (some w) T.heap locs) (hC : cells ≤ C) (hS : slots ≤ S) :
    own_Fin p.tables e below (own_End s Q C S) (T.setTop (mkF m pc Ls (w :: rest))) := by
  obtain ⟨fs, hr, hrun, hended, hW, hsame⟩ := X.leave (v := some w) (fun h => by rw [hret] at h; cases h) hlk
  have hn : narrow t w = w := by cases t <;> first | (cases ht; done) | (cases w <;> first | (cases hw; done) | rfl)
  exact ⟨_, _, retOut X hx hret hn (Or.inr (Or.inr (Or.inr (Or.inr ⟨rfl, ht, hw⟩)))) hd hr, hrun, hended, _, _, rfl, hq, ⟨_, rfl⟩, hW, hsame.mono hC hS⟩
theorem own_retV (X : Stand p l e R s m args below meth c T locs cells slots) (hx : p.tables.exec = Jvm.exec) (hlk : meth.locks = false) {pc : Nat} {Ls : Array Slot} (hret : meth.sig.returnType = none) (hd : decode c.code pc = .ok (.return_, 1)) (hq : Q none T.heap locs) (hC : cells ≤ C) (hS : slots ≤ S) :
    own_Fin p.tables e below (own_End s Q C S) (T.setTop (mkF m pc Ls [])) := by
  obtain ⟨fs, hr, hrun, hended, hW, hsame⟩ := X.leave (v := none) (fun _ => rfl) hlk
  exact ⟨_, _, X.returnOut hx hret hd hr, hrun, hended, _, _, rfl, hq, ⟨_, rfl⟩, hW, hsame.mono hC hS⟩
/-- what a body's contract says: called with as' at the heap h0 it returns, and Q holds of what it returns, of the heap and of the places written -/
def own_Met (l : Launch) (y : MethodName) (bytes : ByteArray) (maxL : Nat) (ret : Option FieldType) (rm : Room) (ws : List Jvm.Cond) (as' : Array Value) (Z : State) (h0 : Heap) (C S : Nat) (Q : Option Value → Heap → List Loc → Prop) : Prop :=
  MetFree l y (head1 (Jvm.Cond.code y bytes maxL ret :: ws) rm) (fun a U => a = as' ∧ Z.Warmed39 U.vm ∧ U.heap = h0) (fun _ _ _ _ _ => True) (fun _ U o U' => ∃ v L, o = .returned v ∧ Q v U'.heap L ∧ FrameEnd U o U' L C S)
theorem own_met {y : MethodName} {bytes : ByteArray} {maxL : Nat} {ret : Option FieldType} {rm : Room} {ws : List Jvm.Cond} {as' : Array Value} {h0 : Heap} (hy : plainFor y = true)
    (body : ∀ (p : Program) (e : Env) (s : State) (m : MethodId) (below : List Frame) (meth : Method) (c : Code) (s₁ : State), p.tables.exec = Jvm.exec → c.code = bytes → c.maxLocals = maxL → s.vm.findClass y.cls = some m.cls → meth.name = y.name → meth.sig.returnType = ret → meth.locks = false → Z.Warmed39 s.vm → s₁.heap = h0 → Stand p l e rm s m as' below meth c s₁ [] 0 0 → own_Fin p.tables e below (own_End s Q C S) (s₁.setTop (entryFrame m as' maxL))) :
    own_Met l y bytes maxL ret rm ws as' Z h0 C S Q := by
  refine MetFree.of_bodySF hy hisR ?_
  intro p e s m args below meth c s₁ Bd hml0 hP hK
  obtain ⟨rfl, hZ, hh⟩ := hP
  have X0 : Stand p l e rm s m args below meth c s₁ [] 0 0 := Stand.of_body Bd
  exact body p e s m below meth c s₁ Bd.exec Bd.bytes hml0 (findClass_of_methodNamed Bd.named) (name_of_methodNamed Bd.named Bd.method).1 Bd.returns Bd.notSynchronized hZ (by rw [← hh, Bd.state]; rfl) X0
section Calls
variable {own : String} {index : Nat} {y : MethodName} {bytes : ByteArray} {maxL : Nat} {ret : Option FieldType} {rm : Room} {as' : Array Value}
theorem own_callS (X : Stand p l e R s m args below meth c T locs cells slots) (hx : p.tables.exec = Jvm.exec) (hZ : Z.Warmed39 s.vm) (hown : s.vm.findClass own = some m.cls) (w1 : (Jvm.Cond.methodLink own index y).before a0 Z = true) (w2 : (Jvm.Cond.static y).before a0 Z = true) (w3 : (Jvm.Cond.initialized y.cls).before a0 Z = true) (w4 : (Jvm.Cond.code y bytes maxL ret).before a0 Z = true)
    (hy : y.cls ≠ "java/lang/invoke/MethodHandle" ∧ y.cls ≠ "java/lang/invoke/VarHandle") {W : Nat} (hM : own_Met l y bytes maxL ret rm [] as' Z h rm.cells rm.slots Q) (hf : rm.frames + 1 ≤ R.frames) (hl : W + (maxL + 11) + rm.locals ≤ R.locals) (eT : T.heap = h)
    {g : JFrame} (hg : g.method = m) (hsize : g.locals.size = c.maxLocals) {argsL rest : List Value} (has : argsL.toArray = as') (hlen : ∀ sig, parseMethodDescriptor y.desc = some sig → argsL.length = sig.parameters.length)
    (hstack : g.stack = argsL.reverse ++ rest) (hW : 2 * g.monitorRoom + (rest.map fun v => v.category).sum ≤ W) (hdg : decode c.code g.pc = .ok (.invokestatic index, 3)) (hc : cells + rm.cells ≤ R.cells) (hs : slots + rm.slots ≤ R.slots) :
    ∃ (v : Option Value) (T' : State) (L' : List Loc), Stand p l e R s m args below meth c T' (locs ++ L') (cells + rm.cells) (slots + rm.slots) ∧ Q v T'.heap L' ∧
      ∀ t, Steps p.tables e below (T'.setTop { g with pc := g.pc + 3, stack := v.toList ++ rest }) t → Steps p.tables e below (T.setTop g) t := by
  obtain ⟨v, vm1, ⟨T', L, k, n⟩, -, X', ⟨L', hQ, e1, e2, e3⟩, st⟩ := Jvm.LawKit.callS X hx hown (mvT hZ w1) (mvT hZ w2) (mvT hZ w3) (mvT hZ w4) hy (backOf (W := W) hM hZ w4 w3 hf hl) hg hsize hlen hstack hW hdg (fun _ _ => ⟨has, eT, hc, hs⟩)
  dsimp only [Pt.U, Pt.locs, Pt.cells, Pt.slots] at X' e1 e2 e3 st hQ
  subst e1 e2 e3
  exact ⟨v, T', L', X', hQ, st⟩
theorem own_callC (X : Stand p l e R s m args below meth c T locs cells slots) (hx : p.tables.exec = Jvm.exec) (hZ : Z.Warmed39 s.vm) (hown : s.vm.findClass own = some m.cls) (hnm : y.name = "<init>") (w1 : (Jvm.Cond.methodLink own index y).before a0 Z = true) (w2 : (Jvm.Cond.instanceMethod y).before a0 Z = true) (w3 : (Jvm.Cond.initialized y.cls).before a0 Z = true) (w4 : (Jvm.Cond.code y bytes maxL none).before a0 Z = true)
    (hy : y.cls ≠ "java/lang/invoke/MethodHandle" ∧ y.cls ≠ "java/lang/invoke/VarHandle") {W : Nat} (hM : own_Met l y bytes maxL none rm [] as' Z h rm.cells rm.slots Q) (hf : rm.frames + 1 ≤ R.frames) (hl : W + (maxL + 11) + rm.locals ≤ R.locals) (eT : T.heap = h)
    {g : JFrame} (hg : g.method = m) (hsize : g.locals.size = c.maxLocals) {a : Addr} {argsL rest : List Value} (has : (.ref a :: argsL).toArray = as') (hlen : ∀ sig, parseMethodDescriptor y.desc = some sig → argsL.length = sig.parameters.length)
    (hstack : g.stack = argsL.reverse ++ .ref a :: rest) (hW : 2 * g.monitorRoom + (rest.map fun v => v.category).sum ≤ W) (hdg : decode c.code g.pc = .ok (.invokespecial index, 3)) (hc : cells + rm.cells ≤ R.cells) (hs : slots + rm.slots ≤ R.slots) :
    ∃ (v : Option Value) (T' : State) (L' : List Loc), Stand p l e R s m args below meth c T' (locs ++ L') (cells + rm.cells) (slots + rm.slots) ∧ Q v T'.heap L' ∧
      ∀ t, Steps p.tables e below (T'.setTop { g with pc := g.pc + 3, stack := v.toList ++ rest }) t → Steps p.tables e below (T.setTop g) t := by
  obtain ⟨v, vm1, ⟨T', L, k, n⟩, -, X', ⟨L', hQ, e1, e2, e3⟩, st⟩ := X.specialBack hx hnm hown (mvT hZ w1) (mvT hZ w2) (mvT hZ w4) hy (backOf (W := W) hM hZ w4 w3 hf hl) hg hsize (Steps.refl _) hlen hstack hW hdg (fun _ _ => ⟨has, eT, hc, hs⟩)
  dsimp only [Pt.U, Pt.locs, Pt.cells, Pt.slots] at X' e1 e2 e3 st hQ
  subst e1 e2 e3
  exact ⟨v, T', L', X', hQ, fun _ k => st.trans k⟩
theorem own_callV (X : Stand p l e R s m args below meth c T locs cells slots) (hx : p.tables.exec = Jvm.exec) (hZ : Z.Warmed39 s.vm) (hown : s.vm.findClass own = some m.cls) {D : String} (w1 : (Jvm.Cond.methodLink own index y).before a0 Z = true) (w2 : (Jvm.Cond.declares y).before a0 Z = true) (w3 : (Jvm.Cond.selects D y y).before a0 Z = true) (w4 : (Jvm.Cond.instanceMethod y).before a0 Z = true) (w5 : (Jvm.Cond.initialized y.cls).before a0 Z = true) (w6 : (Jvm.Cond.code y bytes maxL ret).before a0 Z = true)
    (hy : y.cls ≠ "java/lang/invoke/MethodHandle" ∧ y.cls ≠ "java/lang/invoke/VarHandle") {W : Nat} (hM : own_Met l y bytes maxL ret rm [] as' Z h rm.cells rm.slots Q) (hf : rm.frames + 1 ≤ R.frames) (hl : W + (maxL + 11) + rm.locals ≤ R.locals) (eT : T.heap = h) {a : Addr} (E : Exa Z h a D)
    {g : JFrame} (hg : g.method = m) (hsize : g.locals.size = c.maxLocals) {argsL rest : List Value} (has : (.ref a :: argsL).toArray = as') (hlen : ∀ sig, parseMethodDescriptor y.desc = some sig → argsL.length = sig.parameters.length)
    (hstack : g.stack = argsL.reverse ++ .ref a :: rest) (hW : 2 * g.monitorRoom + (rest.map fun v => v.category).sum ≤ W) (hdg : decode c.code g.pc = .ok (.invokevirtual index, 3)) (hc : cells + rm.cells ≤ R.cells) (hs : slots + rm.slots ≤ R.slots) :
    ∃ (v : Option Value) (T' : State) (L' : List Loc), Stand p l e R s m args below meth c T' (locs ++ L') (cells + rm.cells) (slots + rm.slots) ∧ Q v T'.heap L' ∧
      ∀ t, Steps p.tables e below (T'.setTop { g with pc := g.pc + 3, stack := v.toList ++ rest }) t → Steps p.tables e below (T.setTop g) t := by
  obtain ⟨cq, kq, qa, qb, qc⟩ := isOf hZ eT E
  obtain ⟨v, vm1, ⟨T', L, k, n⟩, -, X', ⟨L', hQ, e1, e2, e3⟩, st⟩ := X.virtualBack hx hown (mvT hZ w1) (mvT hZ w2) (notFace_of_selects (args := #[]) (mvT hZ w3)) (mvT hZ w3) (mvT hZ w4) hy (backOf (W := W) hM hZ w6 w5 hf hl) qa qc hg hsize (Steps.refl _) hlen hstack hW hdg (fun _ _ => ⟨has, eT, hc, hs⟩)
  dsimp only [Pt.U, Pt.locs, Pt.cells, Pt.slots] at X' e1 e2 e3 st hQ
  subst e1 e2 e3
  exact ⟨v, T', L', X', hQ, fun _ k => st.trans k⟩
/-- as own_callC, own_callV, where who pays is given -/
theorem own_callCB (X : Stand p l e R s m args below meth c T locs cells slots) (hx : p.tables.exec = Jvm.exec) (hZ : Z.Warmed39 s.vm) (hown : s.vm.findClass own = some m.cls) (hnm : y.name = "<init>") (w1 : (Jvm.Cond.methodLink own index y).before a0 Z = true) (w2 : (Jvm.Cond.instanceMethod y).before a0 Z = true) (w4 : (Jvm.Cond.code y bytes maxL none).before a0 Z = true)
    (hy : y.cls ≠ "java/lang/invoke/MethodHandle" ∧ y.cls ≠ "java/lang/invoke/VarHandle") {W kc kn : Nat} (hK : Back l R p e below s args y 3 W (fun P a => a = as' ∧ P.U.heap = h ∧ P.cells + kc ≤ R.cells ∧ P.slots + kn ≤ R.slots) (fun P _ v B => ∃ L, Q v B.U.heap L ∧ B.locs = P.locs ++ L ∧ B.cells = P.cells + kc ∧ B.slots = P.slots + kn)) (eT : T.heap = h)
    {g : JFrame} (hg : g.method = m) (hsize : g.locals.size = c.maxLocals) {a : Addr} {argsL rest : List Value} (has : (.ref a :: argsL).toArray = as') (hlen : ∀ sig, parseMethodDescriptor y.desc = some sig → argsL.length = sig.parameters.length)
    (hstack : g.stack = argsL.reverse ++ .ref a :: rest) (hW : 2 * g.monitorRoom + (rest.map fun v => v.category).sum ≤ W) (hdg : decode c.code g.pc = .ok (.invokespecial index, 3)) (hc : cells + kc ≤ R.cells) (hs : slots + kn ≤ R.slots) :
    ∃ (v : Option Value) (T' : State) (L' : List Loc), Stand p l e R s m args below meth c T' (locs ++ L') (cells + kc) (slots + kn) ∧ Q v T'.heap L' ∧
      ∀ t, Steps p.tables e below (T'.setTop { g with pc := g.pc + 3, stack := v.toList ++ rest }) t → Steps p.tables e below (T.setTop g) t := by
  obtain ⟨v, vm1, ⟨T', L, k, n⟩, -, X', ⟨L', hQ, e1, e2, e3⟩, st⟩ := X.specialBack hx hnm hown (mvT hZ w1) (mvT hZ w2) (mvT hZ w4) hy hK hg hsize (Steps.refl _) hlen hstack hW hdg (fun _ _ => ⟨has, eT, hc, hs⟩)
  dsimp only [Pt.U, Pt.locs, Pt.cells, Pt.slots] at X' e1 e2 e3 st hQ
  subst e1 e2 e3
  exact ⟨v, T', L', X', hQ, fun _ k => st.trans k⟩
theorem own_callVB (X : Stand p l e R s m args below meth c T locs cells slots) (hx : p.tables.exec = Jvm.exec) (hZ : Z.Warmed39 s.vm) (hown : s.vm.findClass own = some m.cls) {D : String} (w1 : (Jvm.Cond.methodLink own index y).before a0 Z = true) (w2 : (Jvm.Cond.declares y).before a0 Z = true) (w3 : (Jvm.Cond.selects D y y).before a0 Z = true) (w4 : (Jvm.Cond.instanceMethod y).before a0 Z = true)
    (hy : y.cls ≠ "java/lang/invoke/MethodHandle" ∧ y.cls ≠ "java/lang/invoke/VarHandle") {W kc kn : Nat} {Qb : Option Value → State → List Loc → Prop} (hK : Back l R p e below s args y 3 W (fun P a => a = as' ∧ P.U.heap = h ∧ P.cells + kc ≤ R.cells ∧ P.slots + kn ≤ R.slots) (fun P _ v B => ∃ L, Qb v B.U L ∧ B.locs = P.locs ++ L ∧ B.cells = P.cells + kc ∧ B.slots = P.slots + kn)) (eT : T.heap = h) {a : Addr} (E : Exa Z h a D)
    {g : JFrame} (hg : g.method = m) (hsize : g.locals.size = c.maxLocals) {argsL rest : List Value} (has : (.ref a :: argsL).toArray = as') (hlen : ∀ sig, parseMethodDescriptor y.desc = some sig → argsL.length = sig.parameters.length)
    (hstack : g.stack = argsL.reverse ++ .ref a :: rest) (hW : 2 * g.monitorRoom + (rest.map fun v => v.category).sum ≤ W) (hdg : decode c.code g.pc = .ok (.invokevirtual index, 3)) (hc : cells + kc ≤ R.cells) (hs : slots + kn ≤ R.slots) :
    ∃ (v : Option Value) (T' : State) (L' : List Loc), Stand p l e R s m args below meth c T' (locs ++ L') (cells + kc) (slots + kn) ∧ Qb v T' L' ∧
      ∀ t, Steps p.tables e below (T'.setTop { g with pc := g.pc + 3, stack := v.toList ++ rest }) t → Steps p.tables e below (T.setTop g) t := by
  obtain ⟨cq, kq, qa, qb, qc⟩ := isOf hZ eT E
  obtain ⟨v, vm1, ⟨T', L, k, n⟩, -, X', ⟨L', hQ, e1, e2, e3⟩, st⟩ := X.virtualBack hx hown (mvT hZ w1) (mvT hZ w2) (notFace_of_selects (args := #[]) (mvT hZ w3)) (mvT hZ w3) (mvT hZ w4) hy hK qa qc hg hsize (Steps.refl _) hlen hstack hW hdg (fun _ _ => ⟨has, eT, hc, hs⟩)
  dsimp only [Pt.U, Pt.locs, Pt.cells, Pt.slots] at X' e1 e2 e3 st hQ
  subst e1 e2 e3
  exact ⟨v, T', L', X', hQ, fun _ k => st.trans k⟩
end Calls
section Arrays
variable {a : Addr} {k : ClassId} {ty : FieldType} {z : Int32} {vs : List Value} {dv : Value}
theorem own_alen (X : Stand p l e R s m args below meth c T locs cells slots) (hx : p.tables.exec = Jvm.exec) (hZ : Z.Warmed39 s.vm) (eT : T.heap = h) (V : Arv Z h a k ty z vs dv) {g : JFrame} (hg : g.method = m) {rest : List Value} (hs : g.stack = .ref a :: rest) (hd : decode c.code g.pc = .ok (.arraylength, 1)) {target : State}
    (hr : Steps p.tables e below (T.setTop { g with pc := g.pc + 1, stack := .int z :: rest }) target) : Steps p.tables e below (T.setTop g) target := by
  obtain ⟨cl, Ar, -, S, M, -, -⟩ := V
  refine X.arraylength hx (cell := cl) (by rw [eT]; exact Ar.1) (State.isArrayOf_alike hZ.alike Ar.2.1) hg hs hd _ ?_
  rw [len_of S M]; exact hr
theorem own_aald {C : String} (X : Stand p l e R s m args below meth c T locs cells slots) (hx : p.tables.exec = Jvm.exec) (hZ : Z.Warmed39 s.vm) (eT : T.heap = h) (V : Arv Z h a k (.object C) z vs dv) {j : Int32} (h1 : ¬ j < 0) (h2 : j < z) {g : JFrame} (hg : g.method = m) {rest : List Value} (hs : g.stack = .int j :: .ref a :: rest) (hd : decode c.code g.pc = .ok (.aaload, 1)) {target : State}
    (hr : Steps p.tables e below (T.setTop { g with pc := g.pc + 1, stack := vs.getD j.toNatClampNeg dv :: rest }) target) : Steps p.tables e below (T.setTop g) target := by
  obtain ⟨cl, Ar, -, S, M, H, -⟩ := V
  have hin := inb_of S ⟨h1, h2⟩
  exact X.aaload hx (j := j) (v := vs.getD j.toNatClampNeg dv) (by rw [eT]; exact Ar.1) (State.isArrayOf_alike hZ.alike Ar.2.1) rfl Ar.2.2 hin (Has.at H hin rfl) hg hs hd _ hr
end Arrays
/-- a body that returns r and leaves the heap as it was -/
def own_QP (r : Option Value) (h0 : Heap) (n0 : Nat) (v : Option Value) (h : Heap) (L : List Loc) : Prop := v = r ∧ Fr n0 L ∧ h = h0
end OwnKit
section OwnWide
variable {p : Program} {l : Launch} {e : Env} {R : Room} {s : State} {m : MethodId} {args : Array Value} {below : List Frame} {meth : Method} {c : Code} {T : State} {locs : List Loc} {cells slots : Nat} {Z : State} {a0 : Array Value} {h h' : Heap} {vm0 vm1 : Vm} {k0 : Nat}
variable {Q : Option Value → Heap → Vm → List Loc → Prop} {C S : Nat}
def own_EndW (s : State) (Q : Option Value → Heap → Vm → List Loc → Prop) (C S : Nat) (o : Outcome) (U : State) : Prop := ∃ v L, o = .returned v ∧ Q v U.heap U.vm L ∧ ReturnedEndW s o U L C S
theorem own_monoW {o : Outcome} {t : State} {L : List Loc} {k n : Nat} (h : ReturnedEndW s o t L k n) (hk : k ≤ C) (hn : n ≤ S) : ReturnedEndW s o t L C S := ⟨h.1, h.2.1, h.2.2.1, h.2.2.2.mono hk hn⟩
theorem own_retIW (X : Stand p l e R (s.setVm vm0) m args below meth c T locs cells slots) (hx : p.tables.exec = Jvm.exec) (hlk : meth.locks = false) (hS : s.Since vm0 k0) (hk : k0 ≤ T.heap.size) {pc : Nat} {Ls : Array Slot} {z : Int32} {rest : List Value} (hret : meth.sig.returnType = some .int) (hd : decode c.code pc = .ok (.ireturn, 1)) (hq : Q (some (.int z)) T.heap T.vm locs) (hC : cells ≤ C) (hs : slots ≤ S) :
    own_Fin p.tables e below (own_EndW s Q C S) (T.setTop (mkF m pc Ls (.int z :: rest))) := by
  obtain ⟨fs, hr, hrun, hended, hE⟩ := leaveW X hS hk (v := some (.int z)) (fun h => by rw [hret] at h; cases h) hlk
  exact ⟨_, _, retOut X hx hret rfl (Or.inl ⟨rfl, Or.inl rfl, _, rfl⟩) hd hr, hrun, hended, _, _, rfl, hq, own_monoW hE hC hs⟩
theorem own_retNW (X : Stand p l e R (s.setVm vm0) m args below meth c T locs cells slots) (hx : p.tables.exec = Jvm.exec) (hlk : meth.locks = false) (hS : s.Since vm0 k0) (hk : k0 ≤ T.heap.size) {pc : Nat} {Ls : Array Slot} {z : Int32} {rest : List Value} {t : FieldType} (hret : meth.sig.returnType = some t) (ht : t = .boolean ∨ t = .byte ∨ t = .char ∨ t = .short) (hd : decode c.code pc = .ok (.ireturn, 1)) (hq : Q (some (.int (nar t z))) T.heap T.vm locs) (hC : cells ≤ C) (hs : slots ≤ S) :
    own_Fin p.tables e below (own_EndW s Q C S) (T.setTop (mkF m pc Ls (.int z :: rest))) := by
  obtain ⟨fs, hr, hrun, hended, hE⟩ := leaveW X hS hk (v := some (.int (nar t z))) (fun h => by rw [hret] at h; cases h) hlk
  exact ⟨_, _, retN X hx hret ht hd hr, hrun, hended, _, _, rfl, hq, own_monoW hE hC hs⟩
theorem own_retAW (X : Stand p l e R (s.setVm vm0) m args below meth c T locs cells slots) (hx : p.tables.exec = Jvm.exec) (hlk : meth.locks = false) (hS : s.Since vm0 k0) (hk : k0 ≤ T.heap.size) {pc : Nat} {Ls : Array Slot} {w : Value} {rest : List Value} {t : FieldType} (hret : meth.sig.returnType = some t) (ht : t.isReference = true) (hw : w.isRef = true) (hd : decode c.code pc = .ok (.areturn, 1)) (hq : Q (some w) T.heap T.vm locs) (hC : cells ≤ C) (hs : slots ≤ S) :
    own_Fin p.tables e below (own_EndW s Q C S) (T.setTop (mkF m pc Ls (w :: rest))) := by
  obtain ⟨fs, hr, hrun, hended, hE⟩ := leaveW X hS hk (v := some w) (fun h => by rw [hret] at h; cases h) hlk
  have hn : narrow t w = w := by cases t <;> first | (cases ht; done) | (cases w <;> first | (cases hw; done) | rfl)
  exact ⟨_, _, retOut X hx hret hn (Or.inr (Or.inr (Or.inr (Or.inr ⟨rfl, ht, hw⟩)))) hd hr, hrun, hended, _, _, rfl, hq, own_monoW hE hC hs⟩
theorem own_retVW (X : Stand p l e R (s.setVm vm0) m args below meth c T locs cells slots) (hx : p.tables.exec = Jvm.exec) (hlk : meth.locks = false) (hS : s.Since vm0 k0) (hk : k0 ≤ T.heap.size) {pc : Nat} {Ls : Array Slot} (hret : meth.sig.returnType = none) (hd : decode c.code pc = .ok (.return_, 1)) (hq : Q none T.heap T.vm locs) (hC : cells ≤ C) (hs : slots ≤ S) :
    own_Fin p.tables e below (own_EndW s Q C S) (T.setTop (mkF m pc Ls [])) := by
  obtain ⟨fs, hr, hrun, hended, hE⟩ := leaveW X hS hk (v := none) (fun _ => rfl) hlk
  exact ⟨_, _, X.returnOut hx hret hd hr, hrun, hended, _, _, rfl, hq, own_monoW hE hC hs⟩
/-- a contract of a body that may load the literal: P is asked of the tables at its start -/
def own_MetW (l : Launch) (y : MethodName) (bytes : ByteArray) (maxL : Nat) (ret : Option FieldType) (rm : Room) (ws : List Jvm.Cond) (as' : Array Value) (Z : State) (h0 : Heap) (P : Vm → Prop) (C S : Nat) (Q : Option Value → Heap → Vm → List Loc → Prop) : Prop :=
  MetFree l y (head1 (Jvm.Cond.code y bytes maxL ret :: ws) rm) (fun a U => a = as' ∧ Z.Warmed39 U.vm ∧ U.heap = h0 ∧ P U.vm) (fun _ _ _ _ _ => True) (fun _ U o U' => ∃ v L, o = .returned v ∧ Q v U'.heap U'.vm L ∧ ReturnedEndW U o U' L C S)
theorem own_metW {y : MethodName} {bytes : ByteArray} {maxL : Nat} {ret : Option FieldType} {rm : Room} {ws : List Jvm.Cond} {as' : Array Value} {h0 : Heap} {P : Vm → Prop} (hy : plainFor y = true)
    (body : ∀ (p : Program) (e : Env) (s : State) (m : MethodId) (below : List Frame) (meth : Method) (c : Code) (s₁ : State), p.tables.exec = Jvm.exec → c.code = bytes → c.maxLocals = maxL → (s.setVm s.vm).vm.findClass y.cls = some m.cls → meth.name = y.name → meth.sig.returnType = ret → meth.locks = false → Z.Warmed39 (s.setVm s.vm).vm → s.heap = h0 → s₁.heap = h0 → P s.vm → s.Since s.vm 0 → Stand p l e rm (s.setVm s.vm) m as' below meth c s₁ [] 0 0 → own_Fin p.tables e below (own_EndW s Q C S) (s₁.setTop (entryFrame m as' maxL))) :
    own_MetW l y bytes maxL ret rm ws as' Z h0 P C S Q := by
  refine MetFree.of_bodySF hy hisR ?_
  intro p e s m args below meth c s₁ Bd hml0 hP hK
  obtain ⟨rfl, hZ, hh, hP⟩ := hP
  have X0 : Stand p l e rm s m args below meth c s₁ [] 0 0 := Stand.of_body Bd
  exact body p e s m below meth c s₁ Bd.exec Bd.bytes hml0 (findClass_of_methodNamed Bd.named) (name_of_methodNamed Bd.named Bd.method).1 Bd.returns Bd.notSynchronized hZ hh (by rw [← hh, Bd.state]; rfl) hP (State.WarmedH.since (State.WarmedH.refl s) 0) X0
section CallsW
variable {own : String} {index : Nat} {y : MethodName} {bytes : ByteArray} {maxL : Nat} {ret : Option FieldType} {rm : Room} {as' : Array Value} {P : Vm → Prop} {W : Nat}
theorem own_backW (hM : own_MetW l y bytes maxL ret rm [] as' Z h P rm.cells rm.slots Q) (hZ : Z.Warmed39 s.vm) (hP : ∀ vm, s.WarmedH vm → P vm) (wc : (Jvm.Cond.code y bytes maxL ret).before a0 Z = true) (wz : (Jvm.Cond.initialized y.cls).before a0 Z = true) (hf : rm.frames + 1 ≤ R.frames) (hl : W + (maxL + 11) + rm.locals ≤ R.locals) :
    BackS l R p e below s args y 3 W (fun A a => a = as' ∧ A.U.heap = h ∧ A.cells + rm.cells ≤ R.cells ∧ A.slots + rm.slots ≤ R.slots) (fun A _ v B => ∃ L, Q v B.U.heap B.U.vm L ∧ B.locs = A.locs ++ L ∧ B.cells = A.cells + rm.cells ∧ B.slots = A.slots + rm.slots) := by
  refine BackS.of_freeW (bytes := bytes) (maxL := maxL) (ret := ret) (E := fun _ _ o t L k n => k = rm.cells ∧ n = rm.slots ∧ ∃ v, o = .returned v ∧ Q v t.heap t.vm L) hM hf hl ?_ ?_ ?_ ?_ ?_
  · intro m meth c A a Y hp
    have hU : Z.Warmed39 A.U.vm := wtrans hZ Y.warmed
    refine ⟨?_, mv hU wc, mv hU wz, hp.2.2.1, hp.2.2.2⟩
    show (Jvm.Cond.and _ .tt).before a A.U = true
    rw [Cond.before_and, mv hU wc]; rfl
  · intro m meth c A a g mk Y hp
    exact ⟨hp.1, wtrans hZ Y.warmed, hp.2.1, hP _ Y.warmed⟩
  · intro m meth c A a g mk Y hp
    trivial
  · rintro a U o t ⟨v, L, h1, h2, h3⟩
    exact ⟨L, _, _, h3, rfl, rfl, v, h1, h2⟩
  · rintro m meth c A a g mk v t L k n Y hp - - ⟨rfl, rfl, v', e3, e4⟩
    cases e3
    exact ⟨L, e4, rfl, rfl, rfl⟩
theorem own_callSW (X : Stand p l e R (s.setVm vm0) m args below meth c T locs cells slots) (hx : p.tables.exec = Jvm.exec) (hZ : Z.Warmed39 (s.setVm vm0).vm) (hS : s.Since vm0 k0) (hk : k0 ≤ T.heap.size) (hown : (s.setVm vm0).vm.findClass own = some m.cls) (w1 : (Jvm.Cond.methodLink own index y).before a0 Z = true) (w2 : (Jvm.Cond.static y).before a0 Z = true) (w3 : (Jvm.Cond.initialized y.cls).before a0 Z = true) (w4 : (Jvm.Cond.code y bytes maxL ret).before a0 Z = true)
    (hy : y.cls ≠ "java/lang/invoke/MethodHandle" ∧ y.cls ≠ "java/lang/invoke/VarHandle") (hM : own_MetW l y bytes maxL ret rm [] as' Z h P rm.cells rm.slots Q) (hP : ∀ vm, (s.setVm vm0).WarmedH vm → P vm) (hf : rm.frames + 1 ≤ R.frames) (hl : W + (maxL + 11) + rm.locals ≤ R.locals) (eT : T.heap = h)
    {g : JFrame} (hg : g.method = m) (hsize : g.locals.size = c.maxLocals) {argsL rest : List Value} (has : argsL.toArray = as') (hlen : ∀ sig, parseMethodDescriptor y.desc = some sig → argsL.length = sig.parameters.length)
    (hstack : g.stack = argsL.reverse ++ rest) (hW : 2 * g.monitorRoom + (rest.map fun v => v.category).sum ≤ W) (hdg : decode c.code g.pc = .ok (.invokestatic index, 3)) (hc : cells + rm.cells ≤ R.cells) (hs : slots + rm.slots ≤ R.slots) :
    ∃ (v : Option Value) (T' : State) (L' : List Loc), Stand p l e R (s.setVm T'.vm) m args below meth c T' (locs ++ L') (cells + rm.cells) (slots + rm.slots) ∧ Z.Warmed39 (s.setVm T'.vm).vm ∧ s.Since T'.vm T'.heap.size ∧ (s.setVm T'.vm).vm.findClass own = some m.cls ∧ Q v T'.heap T'.vm L' ∧
      ∀ t, Steps p.tables e below (T'.setTop { g with pc := g.pc + 3, stack := v.toList ++ rest }) t → Steps p.tables e below (T.setTop g) t := by
  obtain ⟨v, vm1, ⟨T', L, k, n⟩, -, X', hS', hgr, ⟨L', hQ, e1, e2, e3⟩, st⟩ := callSS X hx hown (mvT hZ w1) (mvT hZ w2) (mvT hZ w3) (mvT hZ w4) hy (own_backW (W := W) hM hZ hP w4 w3 hf hl) hg hsize hlen hstack hW hdg (fun _ _ => ⟨has, eT, hc, hs⟩)
  dsimp only [Pt.U, Pt.locs, Pt.cells, Pt.slots] at X' e1 e2 e3 st hQ hS' hgr
  subst e1 e2 e3
  exact ⟨v, T', L', X', State.Warmed39.trans (t := s.setVm vm0) hZ hS'.1, hS.trans hS' (Nat.le_trans hk hgr), by rw [show (s.setVm T'.vm).vm = T'.vm from rfl, hS'.1.alike.findClass]; exact hown, hQ, fun _ k => st.trans k⟩
theorem own_callCW (X : Stand p l e R (s.setVm vm0) m args below meth c T locs cells slots) (hx : p.tables.exec = Jvm.exec) (hZ : Z.Warmed39 (s.setVm vm0).vm) (hS : s.Since vm0 k0) (hk : k0 ≤ T.heap.size) (hown : (s.setVm vm0).vm.findClass own = some m.cls) (hnm : y.name = "<init>") (w1 : (Jvm.Cond.methodLink own index y).before a0 Z = true) (w2 : (Jvm.Cond.instanceMethod y).before a0 Z = true) (w3 : (Jvm.Cond.initialized y.cls).before a0 Z = true) (w4 : (Jvm.Cond.code y bytes maxL none).before a0 Z = true)
    (hy : y.cls ≠ "java/lang/invoke/MethodHandle" ∧ y.cls ≠ "java/lang/invoke/VarHandle") (hM : own_MetW l y bytes maxL none rm [] as' Z h P rm.cells rm.slots Q) (hP : ∀ vm, (s.setVm vm0).WarmedH vm → P vm) (hf : rm.frames + 1 ≤ R.frames) (hl : W + (maxL + 11) + rm.locals ≤ R.locals) (eT : T.heap = h)
    {g : JFrame} (hg : g.method = m) (hsize : g.locals.size = c.maxLocals) {a : Addr} {argsL rest : List Value} (has : (.ref a :: argsL).toArray = as') (hlen : ∀ sig, parseMethodDescriptor y.desc = some sig → argsL.length = sig.parameters.length)
    (hstack : g.stack = argsL.reverse ++ .ref a :: rest) (hW : 2 * g.monitorRoom + (rest.map fun v => v.category).sum ≤ W) (hdg : decode c.code g.pc = .ok (.invokespecial index, 3)) (hc : cells + rm.cells ≤ R.cells) (hs : slots + rm.slots ≤ R.slots) :
    ∃ (v : Option Value) (T' : State) (L' : List Loc), Stand p l e R (s.setVm T'.vm) m args below meth c T' (locs ++ L') (cells + rm.cells) (slots + rm.slots) ∧ Z.Warmed39 (s.setVm T'.vm).vm ∧ s.Since T'.vm T'.heap.size ∧ (s.setVm T'.vm).vm.findClass own = some m.cls ∧ Q v T'.heap T'.vm L' ∧
      ∀ t, Steps p.tables e below (T'.setTop { g with pc := g.pc + 3, stack := v.toList ++ rest }) t → Steps p.tables e below (T.setTop g) t := by
  obtain ⟨v, vm1, ⟨T', L, k, n⟩, -, X', hS', hgr, ⟨L', hQ, e1, e2, e3⟩, st⟩ := X.specialBackS hx hnm hown (mvT hZ w1) (mvT hZ w2) (mvT hZ w4) hy (own_backW (W := W) hM hZ hP w4 w3 hf hl) hg hsize (Steps.refl _) hlen hstack hW hdg (fun _ _ => ⟨has, eT, hc, hs⟩)
  dsimp only [Pt.U, Pt.locs, Pt.cells, Pt.slots] at X' e1 e2 e3 st hQ hS' hgr
  subst e1 e2 e3
  exact ⟨v, T', L', X', State.Warmed39.trans (t := s.setVm vm0) hZ hS'.1, hS.trans hS' (Nat.le_trans hk hgr), by rw [show (s.setVm T'.vm).vm = T'.vm from rfl, hS'.1.alike.findClass]; exact hown, hQ, fun _ k => st.trans k⟩
end CallsW
end OwnWide
section OwnStr
variable {Z : State} {h h' : Heap} {vm0 vm1 : Vm} {s : State} {x a : Addr} {cs : List Int32} {B B' : Nat} {a0 : Array Value} {C : String} {kk : Nat}
def own_Chr (cs : List Int32) : Prop := (∀ c ∈ cs, ¬ c < 0 ∧ ¬ (255 : Int32) < c) ∧ cs.length ≤ 4000
/-- x is a String of the chars cs (each 0 to 255); it and its bytes lie below B -/
def own_Str (Z : State) (h : Heap) (x : Addr) (cs : List Int32) (B : Nat) : Prop := Exa Z h x "java/lang/String" ∧ own_Chr cs ∧ x < B ∧ ∃ (t : Addr) (kb : ClassId), t < B ∧ Fld Z h x "java/lang/String" "coder" "B" (.int 0) ∧ Fld Z h x "java/lang/String" "value" "[B" (.ref t) ∧ Arv Z h t kb .byte (Int32.ofNat cs.length) ((cs.map (fun c => c.toInt8.toInt32)).map Value.int) (.int 0)
theorem own_Str.mono (H : own_Str Z h x cs B) (q : B ≤ B') : own_Str Z h x cs B' := by
  obtain ⟨h1, hc, h2, t, kb, h3, r⟩ := H
  exact ⟨h1, hc, Nat.lt_of_lt_of_le h2 q, t, kb, Nat.lt_of_lt_of_le h3 q, r⟩
theorem own_Str.ext (H : own_Str Z h x cs B) (E : Ext h h') : own_Str Z h' x cs B := by
  obtain ⟨h1, hc, h2, t, kb, h3, h4, h5, h6⟩ := H
  exact ⟨h1.ext E, hc, h2, t, kb, h3, h4.ext E, h5.ext E, h6.ext E⟩
theorem own_Str.keep0 (H : own_Str Z h x cs B) (K : Keep h h' []) : own_Str Z h' x cs B := by
  obtain ⟨h1, hc, h2, t, kb, h3, h4, h5, h6⟩ := H
  exact ⟨h1.keep K, hc, h2, t, kb, h3, h4.keep K nin0, h5.keep K nin0, h6.keep K nin0⟩
theorem own_Str.keepB (H : own_Str Z h x cs B) (K : Keep h h' [a]) (q : B ≤ a) : own_Str Z h' x cs B := by
  obtain ⟨h1, hc, h2, t, kb, h3, h4, h5, h6⟩ := H
  have n1 : x ≠ a := Nat.ne_of_lt (Nat.lt_of_lt_of_le h2 q)
  have n2 : t ≠ a := Nat.ne_of_lt (Nat.lt_of_lt_of_le h3 q)
  exact ⟨h1.keep K, hc, h2, t, kb, h3, h4.keep K (ninS n1 nin0), h5.keep K (ninS n1 nin0), h6.keep K (ninS n2 nin0)⟩
theorem own_Str.keepC (H : own_Str Z h x cs B) (K : Keep h h' [a]) (E : Exa Z h a C) (hC : C ≠ "java/lang/String") (w : (Jvm.Cond.instantiable C kk).before a0 Z = true) : own_Str Z h' x cs B := by
  obtain ⟨h1, hc, h2, t, kb, h3, h4, h5, h6⟩ := H
  have n1 : x ≠ a := fun q => Exa.ne E h1 hC q.symm
  have n2 : t ≠ a := fun q => Exa.neArv E h6 w q.symm
  exact ⟨h1.keep K, hc, h2, t, kb, h3, h4.keep K (ninS n1 nin0), h5.keep K (ninS n1 nin0), h6.keep K (ninS n2 nin0)⟩
/-- the literal "" (entry 7 of java/lang/String's pool): this walk has not loaded it, or it is booked and known -/
def own_LO (Z : State) (vm : Vm) (h : Heap) (B : Nat) : Prop := IB Z vm [] ∨ ∃ a : Addr, Lit (Z.setVm vm) "java/lang/String" 7 a ∧ own_Str Z h a [] B
theorem own_LO.mono (H : own_LO Z vm0 h B) (q : B ≤ B') : own_LO Z vm0 h B' := H.imp id fun ⟨a, h1, h2⟩ => ⟨a, h1, h2.mono q⟩
theorem own_LO.ext (H : own_LO Z vm0 h B) (E : Ext h h') : own_LO Z vm0 h' B := H.imp id fun ⟨a, h1, h2⟩ => ⟨a, h1, h2.ext E⟩
theorem own_LO.keep0 (H : own_LO Z vm0 h B) (K : Keep h h' []) : own_LO Z vm0 h' B := H.imp id fun ⟨a, h1, h2⟩ => ⟨a, h1, h2.keep0 K⟩
theorem own_LO.keepB (H : own_LO Z vm0 h B) (K : Keep h h' [a]) (q : B ≤ a) : own_LO Z vm0 h' B := H.imp id fun ⟨b, h1, h2⟩ => ⟨b, h1, h2.keepB K q⟩
theorem own_LO.keepC (H : own_LO Z vm0 h B) (K : Keep h h' [a]) (E : Exa Z h a C) (hC : C ≠ "java/lang/String") (w : (Jvm.Cond.instantiable C kk).before a0 Z = true) : own_LO Z vm0 h' B := H.imp id fun ⟨b, h1, h2⟩ => ⟨b, h1, h2.keepC K E hC w⟩
theorem own_LO.warm (H : own_LO Z vm0 h B) (hW : (s.setVm vm0).WarmedH vm1) : own_LO Z vm1 h B := by
  rcases H with H | ⟨b, h1, h2⟩
  · refine Or.inl ?_
    obtain ⟨more, q1, q2⟩ := H
    exact ⟨more, by rw [hW.interned_eq]; exact q1, q2⟩
  · refine Or.inr ⟨b, ?_, h2⟩
    have h1' : Lit (s.setVm vm0) "java/lang/String" 7 b := h1
    exact Lit.stays h1' hW.wide
theorem own_Chr_nil : own_Chr [] := ⟨fun c hc => (nomatch hc), Nat.zero_le _⟩
def own_eq (cs ds : List Int32) : Int32 := if cs = ds then 1 else 0
theorem own_eq_of {v : Option Value} {cs ds : List Int32} (h : (v = some (.int 1) ∧ cs = ds) ∨ (v = some (.int 0) ∧ ¬ cs = ds)) : v = some (.int (own_eq cs ds)) := by
  unfold own_eq
  rcases h with ⟨h1, h2⟩ | ⟨h1, h2⟩
  · rw [if_pos h2]; exact h1
  · rw [if_neg h2]; exact h1
end OwnStr
theorem dE4_0 : decode jdk_42_method_149_code 0 = .ok (.aload_n 0, 1) := by decide +kernel
theorem dE4_1 : decode jdk_42_method_149_code 1 = .ok (.invokespecial 1, 3) := by decide +kernel
theorem dE4_4 : decode jdk_42_method_149_code 4 = .ok (.iload_n 3, 1) := by decide +kernel
theorem dE4_5 : decode jdk_42_method_149_code 5 = .ok (.ifCond .ne 22, 3) := by decide +kernel
theorem dE4_8 : decode jdk_42_method_149_code 8 = .ok (.aload_n 0, 1) := by decide +kernel
theorem dE4_9 : decode jdk_42_method_149_code 9 = .ok (.ldc 7, 2) := by decide +kernel
theorem dE4_11 : decode jdk_42_method_149_code 11 = .ok (.getfield 9, 3) := by decide +kernel
theorem dE4_14 : decode jdk_42_method_149_code 14 = .ok (.putfield 9, 3) := by decide +kernel
theorem dE4_17 : decode jdk_42_method_149_code 17 = .ok (.aload_n 0, 1) := by decide +kernel
theorem dE4_18 : decode jdk_42_method_149_code 18 = .ok (.ldc 7, 2) := by decide +kernel
theorem dE4_20 : decode jdk_42_method_149_code 20 = .ok (.getfield 15, 3) := by decide +kernel
theorem dE4_23 : decode jdk_42_method_149_code 23 = .ok (.putfield 15, 3) := by decide +kernel
theorem dE4_26 : decode jdk_42_method_149_code 26 = .ok (.return_, 1) := by decide +kernel
theorem pn0 : plainName "java/lang/String" = true := by first | (simp [plainName, overriddenIn]; done) | decide +kernel
theorem pd0 : parseMethodDescriptor "([CIILjava/lang/Void;)V" = some ⟨[(.array .char), .int, .int, (.object "java/lang/Void")], none⟩ := by decide +kernel
theorem efE4 (m : MethodId) (r0 : Addr) (r1 : Addr) : entryFrame m #[(.ref r0), (.ref r1), (.int (0 : Int32)), (.int (0 : Int32)), .null] 6 = mkF m 0 #[.val (.ref r0), .val (.ref r1), .val (.int (0 : Int32)), .val (.int (0 : Int32)), .val .null, .unset] [] := by first | (simp [entryFrame, mkF, argsToLocals, Value.category]; done) | rfl
set_option maxRecDepth 65536 in
set_option maxHeartbeats 40000000 in
theorem rmE4 (l : Launch) (Z : State) (a0 : Array Value) (hw : ∀ d ∈ tables_1, d.before a0 Z = true) (ws : List Jvm.Cond) (r0 : Addr) (r1 : Addr) (u_coder : Value) (h0 : Heap) (n0 : Nat) (Z0 : n0 ≤ h0.size) (E_a : Exa Z h0 r0 "java/lang/String") (F_value : Fld Z h0 r0 "java/lang/String" "value" "[B" .null) (F_coder : Fld Z h0 r0 "java/lang/String" "coder" "B" u_coder) (g_a : n0 ≤ r0) (O0 : Old Z n0 h0) (hheld : Jvm.Lit.constHeld Z "java/lang/String" 7) (hcw : Jvm.Lit.compactW.before a0 Z = true) :
    own_MetW l (⟨"java/lang/String", "<init>", "([CIILjava/lang/Void;)V"⟩ : MethodName) jdk_42_method_149_code 6 none ({ frames := 1, cells := 2, slots := 4, locals := 12 } : Room) ws #[(.ref r0), (.ref r1), (.int (0 : Int32)), (.int (0 : Int32)), .null] Z h0 (fun vm => own_LO Z vm h0 h0.size) 2 4 (fun v h vm L => v = none ∧ Fr n0 L ∧ Keep h0 h [r0] ∧ own_Str Z h r0 [] h.size ∧ own_LO Z vm h h.size) := by
  refine own_metW (plainFor_of_name pn0) ?_
  intro p e s m below meth c s₁ hx hby hml hown hnm hret hlk hZ hh0 e0 LO0 hS0 X0
  have hml : c.maxLocals = 6 := hml
  have N0 := Fr.nil n0
  have K0 := Keep.refl h0 [r0]
  have hsa : ∀ d ∈ Bundle.stringAtoms, d.before a0 Z = true := fun d hd => hw d ((by decide +kernel : ∀ d ∈ Bundle.stringAtoms, d ∈ tables_1) d hd)
  have hkeep : ∀ (b : Addr) (cl : Cell), Z.heap[b]? = some cl → s.heap[b]? = some cl := fun b cl q => by rw [hh0]; exact O0.2.2 b cl q
  refine own_go (fun _ k => castTop (efE4 m r0 r1) k) ?_
  show own_Fin p.tables e below _ (s₁.setTop (mkF m 0 #[.val (.ref r0), .val (.ref r1), .val (.int (0 : Int32)), .val (.int (0 : Int32)), .val .null, .unset] []))
  refine own_go (fun _ k => XS.aloadN X0.here hx rfl (hb hby dE4_0) rfl rfl k) ?_
  show own_Fin p.tables e below _ (s₁.setTop (mkF m 1 #[.val (.ref r0), .val (.ref r1), .val (.int (0 : Int32)), .val (.int (0 : Int32)), .val .null, .unset] [(.ref r0)]))
  obtain ⟨T1, X1, e1, st1⟩ := initO X0 hx hZ hown (hw _ (List.mem_of_getElem? (i := 15) rfl)) (hw _ (List.mem_of_getElem? (i := 16) rfl)) (hw _ (List.mem_of_getElem? (i := 17) rfl)) e0 (g := (mkF m 1 #[.val (.ref r0), .val (.ref r1), .val (.int (0 : Int32)), .val (.int (0 : Int32)), .val .null, .unset] [(.ref r0)])) rfl (by rw [hml]; rfl) rfl (hb hby dE4_1) (by decide) (W := 0) (by show 2 * 0 + _ ≤ _; exact Nat.le_of_eq rfl) (by decide)
  refine own_go st1 ?_
  show own_Fin p.tables e below _ (T1.setTop (mkF m 4 #[.val (.ref r0), .val (.ref r1), .val (.int (0 : Int32)), .val (.int (0 : Int32)), .val .null, .unset] []))
  refine own_go (fun _ k => XS.iloadN X1.here hx rfl (hb hby dE4_4) rfl k) ?_
  show own_Fin p.tables e below _ (T1.setTop (mkF m 5 #[.val (.ref r0), .val (.ref r1), .val (.int (0 : Int32)), .val (.int (0 : Int32)), .val .null, .unset] [(.int (0 : Int32))]))
  refine own_go (fun _ k => XS.ifNo X1.here hx rfl (hb hby dE4_5) rfl (XT.i0_ne_f (by decide)) k) ?_
  show own_Fin p.tables e below _ (T1.setTop (mkF m 8 #[.val (.ref r0), .val (.ref r1), .val (.int (0 : Int32)), .val (.int (0 : Int32)), .val .null, .unset] []))
  refine own_go (fun _ k => XS.aloadN X1.here hx rfl (hb hby dE4_8) rfl rfl k) ?_
  show own_Fin p.tables e below _ (T1.setTop (mkF m 9 #[.val (.ref r0), .val (.ref r1), .val (.int (0 : Int32)), .val (.int (0 : Int32)), .val .null, .unset] [(.ref r0)]))
  rcases LO0 with I2 | ⟨al2, L2, SS2⟩
  · obtain ⟨al2, T2, h2, kq2, bl2, kl2, X2, e2, E2, hS2, hk2, hZ2, ho2, El2, Cl2, Vl2, Al2, la2, lb2, -, L2, st2⟩ := ldcSVL X1 hx hZ hown (hw _ (List.mem_of_getElem? (i := 18) rfl)) hsa e1 hS0 (Nat.zero_le _) (Fr.nil _) hkeep I2 (by simp) hheld hcw (vs := []) (z := 0) ⟨fun c hc => by simp at hc, rfl⟩ (by decide) rfl (g := (mkF m 9 #[.val (.ref r0), .val (.ref r1), .val (.int (0 : Int32)), .val (.int (0 : Int32)), .val .null, .unset] [(.ref r0)])) rfl (hb hby dE4_9) (n := 0) (by decide) (by decide) (by decide) (by decide)
    have ne_r0_al2 : r0 ≠ al2 := Fld.ne (F_value.ext E2) Vl2 (by simp)
    have Er0_2 := E_a.ext E2
    have Fr0_value_2 := F_value.ext E2
    have Fr0_coder_2 := F_coder.ext E2
    have K2 := K0.ext E2
    have ne_r0_bl2 : r0 ≠ bl2 := Exa.neArv Er0_2 Al2 (hw _ (List.mem_of_getElem? (i := 6) rfl))
    refine own_go st2 ?_
    show own_Fin p.tables e below _ (T2.setTop (mkF m 11 #[.val (.ref r0), .val (.ref r1), .val (.int (0 : Int32)), .val (.int (0 : Int32)), .val .null, .unset] [(.ref al2), (.ref r0)]))
    obtain ⟨T3, X3, e3, st3⟩ := getF X2 hx hZ2 ho2 (host := "") (Or.inl (hw _ (List.mem_of_getElem? (i := 24) rfl))) Via.refl e2 Vl2 (g := (mkF m 11 #[.val (.ref r0), .val (.ref r1), .val (.int (0 : Int32)), .val (.int (0 : Int32)), .val .null, .unset] [(.ref al2), (.ref r0)])) rfl rfl (hb hby dE4_11)
    refine own_go st3 ?_
    show own_Fin p.tables e below _ (T3.setTop (mkF m 14 #[.val (.ref r0), .val (.ref r1), .val (.int (0 : Int32)), .val (.int (0 : Int32)), .val .null, .unset] [(.ref bl2), (.ref r0)]))
    obtain ⟨T4, h4, X4, e4, W4, st4⟩ := putF X3 hx hZ2 ho2 (host := "") (Or.inl (hw _ (List.mem_of_getElem? (i := 24) rfl))) Via.refl e3 Fr0_value_2 Er0_2 (Or.inr ⟨(hw _ (List.mem_of_getElem? (i := 20) rfl)), rfl, hnm⟩) (hw _ (List.mem_of_getElem? (i := 6) rfl)) (ty := (.array .byte)) (by decide) rfl rfl (g := (mkF m 14 #[.val (.ref r0), .val (.ref r1), .val (.int (0 : Int32)), .val (.int (0 : Int32)), .val .null, .unset] [(.ref bl2), (.ref r0)])) rfl rfl (hb hby dE4_14)
    have K4 := K2.wr W4 (Or.inl (List.mem_of_getElem? (i := 0) rfl))
    have N4 := Fr.snoc X4 N0 g_a
    have Er0_4 := Er0_2.wr W4
    have Fr0_value_4 := Fr0_value_2.same W4
    have Fr0_coder_4 := Fr0_coder_2.other W4 (Or.inr (slot_ne (Or.inr (hw _ (List.mem_of_getElem? (i := 21) rfl))) (Or.inr (hw _ (List.mem_of_getElem? (i := 20) rfl))) (by decide) (t := .byte) (t' := (.array .byte)) (by decide) (by decide)))
    have Eal2_4 := El2.wr W4
    have Fal2_coder_4 := Cl2.other W4 (Or.inl (Ne.symm ne_r0_al2))
    have Fal2_value_4 := Vl2.other W4 (Or.inl (Ne.symm ne_r0_al2))
    have Vbl2_4 := Al2.other W4 (Ne.symm ne_r0_bl2)
    refine own_go st4 ?_
    show own_Fin p.tables e below _ (T4.setTop (mkF m 17 #[.val (.ref r0), .val (.ref r1), .val (.int (0 : Int32)), .val (.int (0 : Int32)), .val .null, .unset] []))
    refine own_go (fun _ k => XS.aloadN X4.here hx rfl (hb hby dE4_17) rfl rfl k) ?_
    show own_Fin p.tables e below _ (T4.setTop (mkF m 18 #[.val (.ref r0), .val (.ref r1), .val (.int (0 : Int32)), .val (.int (0 : Int32)), .val .null, .unset] [(.ref r0)]))
    have st5 := ldcAgain X4 hx hZ2 ho2 (hw _ (List.mem_of_getElem? (i := 18) rfl)) L2 (g := (mkF m 18 #[.val (.ref r0), .val (.ref r1), .val (.int (0 : Int32)), .val (.int (0 : Int32)), .val .null, .unset] [(.ref r0)])) rfl (hb hby dE4_18)
    refine own_go st5 ?_
    show own_Fin p.tables e below _ (T4.setTop (mkF m 20 #[.val (.ref r0), .val (.ref r1), .val (.int (0 : Int32)), .val (.int (0 : Int32)), .val .null, .unset] [(.ref al2), (.ref r0)]))
    obtain ⟨T6, X6, e6, st6⟩ := getF X4 hx hZ2 ho2 (host := "") (Or.inl (hw _ (List.mem_of_getElem? (i := 25) rfl))) Via.refl e4 Fal2_coder_4 (g := (mkF m 20 #[.val (.ref r0), .val (.ref r1), .val (.int (0 : Int32)), .val (.int (0 : Int32)), .val .null, .unset] [(.ref al2), (.ref r0)])) rfl rfl (hb hby dE4_20)
    refine own_go st6 ?_
    show own_Fin p.tables e below _ (T6.setTop (mkF m 23 #[.val (.ref r0), .val (.ref r1), .val (.int (0 : Int32)), .val (.int (0 : Int32)), .val .null, .unset] [(.int (0 : Int32)), (.ref r0)]))
    obtain ⟨T7, h7, X7, e7, W7, st7⟩ := putF X6 hx hZ2 ho2 (host := "") (Or.inl (hw _ (List.mem_of_getElem? (i := 25) rfl))) Via.refl e6 Fr0_coder_4 Er0_4 (Or.inr ⟨(hw _ (List.mem_of_getElem? (i := 21) rfl)), rfl, hnm⟩) (hw _ (List.mem_of_getElem? (i := 6) rfl)) (ty := .byte) (by decide) rfl rfl (g := (mkF m 23 #[.val (.ref r0), .val (.ref r1), .val (.int (0 : Int32)), .val (.int (0 : Int32)), .val .null, .unset] [(.int (0 : Int32)), (.ref r0)])) rfl rfl (hb hby dE4_23)
    have K7 := K4.wr W7 (Or.inl (List.mem_of_getElem? (i := 0) rfl))
    have N7 := Fr.snoc X7 N4 g_a
    have Er0_7 := Er0_4.wr W7
    have Fr0_value_7 := Fr0_value_4.other W7 (Or.inr (slot_ne (Or.inr (hw _ (List.mem_of_getElem? (i := 20) rfl))) (Or.inr (hw _ (List.mem_of_getElem? (i := 21) rfl))) (by decide) (t := (.array .byte)) (t' := .byte) (by decide) (by decide)))
    have Fr0_coder_7 := Fr0_coder_4.same W7
    have Eal2_7 := Eal2_4.wr W7
    have Fal2_coder_7 := Fal2_coder_4.other W7 (Or.inl (Ne.symm ne_r0_al2))
    have Fal2_value_7 := Fal2_value_4.other W7 (Or.inl (Ne.symm ne_r0_al2))
    have Vbl2_7 := Vbl2_4.other W7 (Ne.symm ne_r0_bl2)
    refine own_go st7 ?_
    show own_Fin p.tables e below _ (T7.setTop (mkF m 26 #[.val (.ref r0), .val (.ref r1), .val (.int (0 : Int32)), .val (.int (0 : Int32)), .val .null, .unset] []))
    refine own_retVW X7 hx hlk hS2 (by rw [e7]; exact (Nat.le_trans (Nat.le_trans hk2 (Keep.of_wr W4).1) (Keep.of_wr W7).1)) hret (hb hby dE4_26) ?_ (by decide) (by decide)
    show _ ∧ _ ∧ Keep h0 T7.heap _ ∧ own_Str Z T7.heap _ _ _ ∧ own_LO Z _ T7.heap _
    rw [e7]
    have hA : al2 < h7.size := Eal2_7.lt
    have hB : bl2 < h7.size := Vbl2_7.lt
    have hR : r0 < h7.size := Er0_7.lt
    have hL : Lit (Z.setVm T7.vm) "java/lang/String" 7 al2 := Lit.stays (L2 : Lit _ "java/lang/String" 7 _) X7.warmed.wide
    exact ⟨rfl, N7, K7, ⟨Er0_7, own_Chr_nil, hR, bl2, kl2, hB, Fr0_coder_7, Fr0_value_7, Vbl2_7⟩, Or.inr ⟨al2, hL, Eal2_7, own_Chr_nil, hA, bl2, kl2, hB, Fal2_coder_7, Fal2_value_7, Vbl2_7⟩⟩
  · obtain ⟨El2, -, la2, bl2, kl2, lb2, Cl2, Vl2, Al2⟩ := SS2
    have st2 := ldcAgain X1 hx hZ hown (hw _ (List.mem_of_getElem? (i := 18) rfl)) (L2 : Lit _ "java/lang/String" 7 _) (g := (mkF m 9 #[.val (.ref r0), .val (.ref r1), .val (.int (0 : Int32)), .val (.int (0 : Int32)), .val .null, .unset] [(.ref r0)])) rfl (hb hby dE4_9)
    have ne_r0_al2 : r0 ≠ al2 := Fld.ne F_value Vl2 (by simp)
    have ne_r0_bl2 : r0 ≠ bl2 := Exa.neArv E_a Al2 (hw _ (List.mem_of_getElem? (i := 6) rfl))
    refine own_go st2 ?_
    show own_Fin p.tables e below _ (T1.setTop (mkF m 11 #[.val (.ref r0), .val (.ref r1), .val (.int (0 : Int32)), .val (.int (0 : Int32)), .val .null, .unset] [(.ref al2), (.ref r0)]))
    obtain ⟨T8, X8, e8, st8⟩ := getF X1 hx hZ hown (host := "") (Or.inl (hw _ (List.mem_of_getElem? (i := 24) rfl))) Via.refl e1 Vl2 (g := (mkF m 11 #[.val (.ref r0), .val (.ref r1), .val (.int (0 : Int32)), .val (.int (0 : Int32)), .val .null, .unset] [(.ref al2), (.ref r0)])) rfl rfl (hb hby dE4_11)
    refine own_go st8 ?_
    show own_Fin p.tables e below _ (T8.setTop (mkF m 14 #[.val (.ref r0), .val (.ref r1), .val (.int (0 : Int32)), .val (.int (0 : Int32)), .val .null, .unset] [(.ref bl2), (.ref r0)]))
    obtain ⟨T9, h9, X9, e9, W9, st9⟩ := putF X8 hx hZ hown (host := "") (Or.inl (hw _ (List.mem_of_getElem? (i := 24) rfl))) Via.refl e8 F_value E_a (Or.inr ⟨(hw _ (List.mem_of_getElem? (i := 20) rfl)), rfl, hnm⟩) (hw _ (List.mem_of_getElem? (i := 6) rfl)) (ty := (.array .byte)) (by decide) rfl rfl (g := (mkF m 14 #[.val (.ref r0), .val (.ref r1), .val (.int (0 : Int32)), .val (.int (0 : Int32)), .val .null, .unset] [(.ref bl2), (.ref r0)])) rfl rfl (hb hby dE4_14)
    have K9 := K0.wr W9 (Or.inl (List.mem_of_getElem? (i := 0) rfl))
    have N9 := Fr.snoc X9 N0 g_a
    have Er0_9 := E_a.wr W9
    have Fr0_value_9 := F_value.same W9
    have Fr0_coder_9 := F_coder.other W9 (Or.inr (slot_ne (Or.inr (hw _ (List.mem_of_getElem? (i := 21) rfl))) (Or.inr (hw _ (List.mem_of_getElem? (i := 20) rfl))) (by decide) (t := .byte) (t' := (.array .byte)) (by decide) (by decide)))
    have Eal2_9 := El2.wr W9
    have Fal2_coder_9 := Cl2.other W9 (Or.inl (Ne.symm ne_r0_al2))
    have Fal2_value_9 := Vl2.other W9 (Or.inl (Ne.symm ne_r0_al2))
    have Vbl2_9 := Al2.other W9 (Ne.symm ne_r0_bl2)
    refine own_go st9 ?_
    show own_Fin p.tables e below _ (T9.setTop (mkF m 17 #[.val (.ref r0), .val (.ref r1), .val (.int (0 : Int32)), .val (.int (0 : Int32)), .val .null, .unset] []))
    refine own_go (fun _ k => XS.aloadN X9.here hx rfl (hb hby dE4_17) rfl rfl k) ?_
    show own_Fin p.tables e below _ (T9.setTop (mkF m 18 #[.val (.ref r0), .val (.ref r1), .val (.int (0 : Int32)), .val (.int (0 : Int32)), .val .null, .unset] [(.ref r0)]))
    have st10 := ldcAgain X9 hx hZ hown (hw _ (List.mem_of_getElem? (i := 18) rfl)) L2 (g := (mkF m 18 #[.val (.ref r0), .val (.ref r1), .val (.int (0 : Int32)), .val (.int (0 : Int32)), .val .null, .unset] [(.ref r0)])) rfl (hb hby dE4_18)
    refine own_go st10 ?_
    show own_Fin p.tables e below _ (T9.setTop (mkF m 20 #[.val (.ref r0), .val (.ref r1), .val (.int (0 : Int32)), .val (.int (0 : Int32)), .val .null, .unset] [(.ref al2), (.ref r0)]))
    obtain ⟨T11, X11, e11, st11⟩ := getF X9 hx hZ hown (host := "") (Or.inl (hw _ (List.mem_of_getElem? (i := 25) rfl))) Via.refl e9 Fal2_coder_9 (g := (mkF m 20 #[.val (.ref r0), .val (.ref r1), .val (.int (0 : Int32)), .val (.int (0 : Int32)), .val .null, .unset] [(.ref al2), (.ref r0)])) rfl rfl (hb hby dE4_20)
    refine own_go st11 ?_
    show own_Fin p.tables e below _ (T11.setTop (mkF m 23 #[.val (.ref r0), .val (.ref r1), .val (.int (0 : Int32)), .val (.int (0 : Int32)), .val .null, .unset] [(.int (0 : Int32)), (.ref r0)]))
    obtain ⟨T12, h12, X12, e12, W12, st12⟩ := putF X11 hx hZ hown (host := "") (Or.inl (hw _ (List.mem_of_getElem? (i := 25) rfl))) Via.refl e11 Fr0_coder_9 Er0_9 (Or.inr ⟨(hw _ (List.mem_of_getElem? (i := 21) rfl)), rfl, hnm⟩) (hw _ (List.mem_of_getElem? (i := 6) rfl)) (ty := .byte) (by decide) rfl rfl (g := (mkF m 23 #[.val (.ref r0), .val (.ref r1), .val (.int (0 : Int32)), .val (.int (0 : Int32)), .val .null, .unset] [(.int (0 : Int32)), (.ref r0)])) rfl rfl (hb hby dE4_23)
    have K12 := K9.wr W12 (Or.inl (List.mem_of_getElem? (i := 0) rfl))
    have N12 := Fr.snoc X12 N9 g_a
    have Er0_12 := Er0_9.wr W12
    have Fr0_value_12 := Fr0_value_9.other W12 (Or.inr (slot_ne (Or.inr (hw _ (List.mem_of_getElem? (i := 20) rfl))) (Or.inr (hw _ (List.mem_of_getElem? (i := 21) rfl))) (by decide) (t := (.array .byte)) (t' := .byte) (by decide) (by decide)))
    have Fr0_coder_12 := Fr0_coder_9.same W12
    have Eal2_12 := Eal2_9.wr W12
    have Fal2_coder_12 := Fal2_coder_9.other W12 (Or.inl (Ne.symm ne_r0_al2))
    have Fal2_value_12 := Fal2_value_9.other W12 (Or.inl (Ne.symm ne_r0_al2))
    have Vbl2_12 := Vbl2_9.other W12 (Ne.symm ne_r0_bl2)
    refine own_go st12 ?_
    show own_Fin p.tables e below _ (T12.setTop (mkF m 26 #[.val (.ref r0), .val (.ref r1), .val (.int (0 : Int32)), .val (.int (0 : Int32)), .val .null, .unset] []))
    refine own_retVW X12 hx hlk hS0 (Nat.zero_le _) hret (hb hby dE4_26) ?_ (by decide) (by decide)
    show _ ∧ _ ∧ Keep h0 T12.heap _ ∧ own_Str Z T12.heap _ _ _ ∧ own_LO Z _ T12.heap _
    rw [e12]
    have hA : al2 < h12.size := Eal2_12.lt
    have hB : bl2 < h12.size := Vbl2_12.lt
    have hR : r0 < h12.size := Er0_12.lt
    have hL : Lit (Z.setVm T12.vm) "java/lang/String" 7 al2 := Lit.stays (L2 : Lit _ "java/lang/String" 7 _) X12.warmed.wide
    exact ⟨rfl, N12, K12, ⟨Er0_12, own_Chr_nil, hR, bl2, kl2, hB, Fr0_coder_12, Fr0_value_12, Vbl2_12⟩, Or.inr ⟨al2, hL, Eal2_12, own_Chr_nil, hA, bl2, kl2, hB, Fal2_coder_12, Fal2_value_12, Vbl2_12⟩⟩
theorem dE1_0 : decode jdk_42_method_3_code 0 = .ok (.aload_n 0, 1) := by decide +kernel
theorem dE1_1 : decode jdk_42_method_3_code 1 = .ok (.aload_n 1, 1) := by decide +kernel
theorem dE1_2 : decode jdk_42_method_3_code 2 = .ok (.iconst 0, 1) := by decide +kernel
theorem dE1_3 : decode jdk_42_method_3_code 3 = .ok (.aload_n 1, 1) := by decide +kernel
theorem dE1_4 : decode jdk_42_method_3_code 4 = .ok (.arraylength, 1) := by decide +kernel
theorem dE1_5 : decode jdk_42_method_3_code 5 = .ok (.aconst_null, 1) := by decide +kernel
theorem dE1_6 : decode jdk_42_method_3_code 6 = .ok (.invokespecial 27, 3) := by decide +kernel
theorem dE1_9 : decode jdk_42_method_3_code 9 = .ok (.return_, 1) := by decide +kernel
theorem pd1 : parseMethodDescriptor "([C)V" = some ⟨[(.array .char)], none⟩ := by decide +kernel
theorem efE1 (m : MethodId) (r0 : Addr) (r1 : Addr) : entryFrame m #[(.ref r0), (.ref r1)] 2 = mkF m 0 #[.val (.ref r0), .val (.ref r1)] [] := by first | (simp [entryFrame, mkF, argsToLocals, Value.category]; done) | rfl
set_option maxRecDepth 65536 in
set_option maxHeartbeats 40000000 in
theorem rmE1 (l : Launch) (Z : State) (a0 : Array Value) (hw : ∀ d ∈ tables_1, d.before a0 Z = true) (ws : List Jvm.Cond) (r0 : Addr) (r1 : Addr) (u_coder : Value) (h0 : Heap) (n0 : Nat) (Z0 : n0 ≤ h0.size) (E_a : Exa Z h0 r0 "java/lang/String") (F_value : Fld Z h0 r0 "java/lang/String" "value" "[B" .null) (F_coder : Fld Z h0 r0 "java/lang/String" "coder" "B" u_coder) (g_a : n0 ≤ r0) (O0 : Old Z n0 h0) (hheld : Jvm.Lit.constHeld Z "java/lang/String" 7) (hcw : Jvm.Lit.compactW.before a0 Z = true) (k1 : ClassId) (d1 : Value) (V_a : Arv Z h0 r1 k1 .char (0 : Int32) [] d1) :
    own_MetW l (⟨"java/lang/String", "<init>", "([C)V"⟩ : MethodName) jdk_42_method_3_code 2 none ({ frames := 2, cells := 2, slots := 4, locals := 29 } : Room) ws #[(.ref r0), (.ref r1)] Z h0 (fun vm => own_LO Z vm h0 h0.size) 2 4 (fun v h vm L => v = none ∧ Fr n0 L ∧ Keep h0 h [r0] ∧ own_Str Z h r0 [] h.size ∧ own_LO Z vm h h.size) := by
  refine own_metW (plainFor_of_name pn0) ?_
  intro p e s m below meth c s₁ hx hby hml hown hnm hret hlk hZ hh0 e0 LO0 hS0 X0
  have hml : c.maxLocals = 2 := hml
  have N0 := Fr.nil n0
  have K0 := Keep.refl h0 [r0]
  have ne01 : r0 ≠ r1 := Exa.neArv E_a V_a (hw _ (List.mem_of_getElem? (i := 6) rfl))
  refine own_go (fun _ k => castTop (efE1 m r0 r1) k) ?_
  show own_Fin p.tables e below _ (s₁.setTop (mkF m 0 #[.val (.ref r0), .val (.ref r1)] []))
  refine own_go (fun _ k => XS.aloadN X0.here hx rfl (hb hby dE1_0) rfl rfl k) ?_
  show own_Fin p.tables e below _ (s₁.setTop (mkF m 1 #[.val (.ref r0), .val (.ref r1)] [(.ref r0)]))
  refine own_go (fun _ k => XS.aloadN X0.here hx rfl (hb hby dE1_1) rfl rfl k) ?_
  show own_Fin p.tables e below _ (s₁.setTop (mkF m 2 #[.val (.ref r0), .val (.ref r1)] [(.ref r1), (.ref r0)]))
  refine own_go (fun _ k => XT.iconstV X0.here hx rfl (0 : Int32) (hb hby dE1_2) (by decide) k) ?_
  show own_Fin p.tables e below _ (s₁.setTop (mkF m 3 #[.val (.ref r0), .val (.ref r1)] [(.int (0 : Int32)), (.ref r1), (.ref r0)]))
  refine own_go (fun _ k => XS.aloadN X0.here hx rfl (hb hby dE1_3) rfl rfl k) ?_
  show own_Fin p.tables e below _ (s₁.setTop (mkF m 4 #[.val (.ref r0), .val (.ref r1)] [(.ref r1), (.int (0 : Int32)), (.ref r1), (.ref r0)]))
  refine own_go (fun _ k => own_alen X0 hx hZ e0 V_a (g := (mkF m 4 #[.val (.ref r0), .val (.ref r1)] [(.ref r1), (.int (0 : Int32)), (.ref r1), (.ref r0)])) rfl (rest := [(.int (0 : Int32)), (.ref r1), (.ref r0)]) rfl (hb hby dE1_4) k) ?_
  show own_Fin p.tables e below _ (s₁.setTop (mkF m 5 #[.val (.ref r0), .val (.ref r1)] [(.int (0 : Int32)), (.int (0 : Int32)), (.ref r1), (.ref r0)]))
  refine own_go (fun _ k => XS.aconstNull X0.here hx rfl (hb hby dE1_5) k) ?_
  show own_Fin p.tables e below _ (s₁.setTop (mkF m 6 #[.val (.ref r0), .val (.ref r1)] [.null, (.int (0 : Int32)), (.int (0 : Int32)), (.ref r1), (.ref r0)]))
  obtain ⟨_, T1, L1, X1, hZ1, hS1, ho1, ⟨rfl, M1, KK1, S1, LO1⟩, st1⟩ := own_callCW X0 hx hZ hS0 (Nat.zero_le _) hown rfl (hw _ (List.mem_of_getElem? (i := 11) rfl)) (hw _ (List.mem_of_getElem? (i := 12) rfl)) (hw _ (List.mem_of_getElem? (i := 7) rfl)) (hw _ (List.mem_of_getElem? (i := 14) rfl)) (by decide) (W := 0) (rmE4 l Z a0 hw [] r0 r1 u_coder h0 n0 (Nat.le_trans Z0 K0.1) E_a F_value F_coder g_a O0 hheld hcw) (fun vm hv => own_LO.warm (LO0.mono K0.1) hv) (by decide) (by decide) e0 (g := (mkF m 6 #[.val (.ref r0), .val (.ref r1)] [.null, (.int (0 : Int32)), (.int (0 : Int32)), (.ref r1), (.ref r0)])) rfl (by rw [hml]; rfl) (argsL := [(.ref r1), (.int (0 : Int32)), (.int (0 : Int32)), .null]) (rest := []) rfl (lenOf pd0 rfl) rfl (by show 2 * 0 + _ ≤ _; exact Nat.le_of_eq rfl) (hb hby dE1_6) (by decide) (by decide)
  have N1 := Fr.app N0 M1
  have Er0_1 := E_a.keep KK1
  have Vr1_1 := V_a.keep KK1 (ninS (Ne.symm ne01) nin0)
  have O_1 := O0.keep KK1 (allS g_a all0)
  have K1 := K0.trans KK1 (allS (Or.inl (List.mem_of_getElem? (i := 0) rfl)) all0)
  refine own_go st1 ?_
  show own_Fin p.tables e below _ (T1.setTop (mkF m 9 #[.val (.ref r0), .val (.ref r1)] []))
  refine own_retVW X1 hx hlk hS1 (Nat.le_refl _) hret (hb hby dE1_9) ?_ (by decide) (by decide)
  exact ⟨rfl, N1, K1, S1, (own_LO.warm (LO1.mono (Nat.le_refl _)) X1.warmed)⟩
theorem dN_0 : decode jdk_42_method_66_code 0 = .ok (.aload_n 0, 1) := by decide +kernel
theorem dN_1 : decode jdk_42_method_66_code 1 = .ok (.aload_n 1, 1) := by decide +kernel
theorem dN_2 : decode jdk_42_method_66_code 2 = .ok (.if_acmp .ne 5, 3) := by decide +kernel
theorem dN_7 : decode jdk_42_method_66_code 7 = .ok (.aload_n 1, 1) := by decide +kernel
theorem dN_8 : decode jdk_42_method_66_code 8 = .ok (.instanceof 10, 3) := by decide +kernel
theorem dN_11 : decode jdk_42_method_66_code 11 = .ok (.ifCond .eq 43, 3) := by decide +kernel
theorem dN_54 : decode jdk_42_method_66_code 54 = .ok (.iconst 0, 1) := by decide +kernel
theorem dN_55 : decode jdk_42_method_66_code 55 = .ok (.ireturn, 1) := by decide +kernel
theorem pd2 : parseMethodDescriptor "(Ljava/lang/Object;)Z" = some ⟨[(.object "java/lang/Object")], some .boolean⟩ := by decide +kernel
theorem efN (m : MethodId) (r0 : Addr) : entryFrame m #[(.ref r0), .null] 3 = mkF m 0 #[.val (.ref r0), .val .null, .unset] [] := by first | (simp [entryFrame, mkF, argsToLocals, Value.category]; done) | rfl
def fN  : Int32 := (0 : Int32)
set_option maxRecDepth 65536 in
set_option maxHeartbeats 40000000 in
theorem rmN (l : Launch) (Z : State) (a0 : Array Value) (hw : ∀ d ∈ tables_1, d.before a0 Z = true) (ws : List Jvm.Cond) (r0 : Addr) (h0 : Heap) (n0 : Nat) (Z0 : n0 ≤ h0.size)  :
    own_Met l (⟨"java/lang/String", "equals", "(Ljava/lang/Object;)Z"⟩ : MethodName) jdk_42_method_66_code 3 (some .boolean) ({ frames := 0, cells := 0, slots := 0, locals := 0 } : Room) ws #[(.ref r0), .null] Z h0 0 0 (own_QP (some (.int (fN ))) h0 n0) := by
  refine own_met (plainFor_of_name pn0) ?_
  intro p e s m below meth c s₁ hx hby hml hown hnm hret hlk hZ e0 X0
  have hml : c.maxLocals = 3 := hml
  have N0 := Fr.nil n0
  have K0 := Keep.refl h0 []
  refine own_go (fun _ k => castTop (efN m r0) k) ?_
  show own_Fin p.tables e below _ (s₁.setTop (mkF m 0 #[.val (.ref r0), .val .null, .unset] []))
  refine own_go (fun _ k => XS.aloadN X0.here hx rfl (hb hby dN_0) rfl rfl k) ?_
  show own_Fin p.tables e below _ (s₁.setTop (mkF m 1 #[.val (.ref r0), .val .null, .unset] [(.ref r0)]))
  refine own_go (fun _ k => XS.aloadN X0.here hx rfl (hb hby dN_1) rfl rfl k) ?_
  show own_Fin p.tables e below _ (s₁.setTop (mkF m 2 #[.val (.ref r0), .val .null, .unset] [.null, (.ref r0)]))
  refine own_go (fun _ k => XT.acmpYes X0.here hx rfl (pc0 := 2) (pc' := 7) rfl (hb hby dN_2) rfl rfl rfl (XT.aa_ne_t (fun q => nomatch q)) (by decide) (by decide) k) ?_
  show own_Fin p.tables e below _ (s₁.setTop (mkF m 7 #[.val (.ref r0), .val .null, .unset] []))
  refine own_go (fun _ k => XS.aloadN X0.here hx rfl (hb hby dN_7) rfl rfl k) ?_
  show own_Fin p.tables e below _ (s₁.setTop (mkF m 8 #[.val (.ref r0), .val .null, .unset] [.null]))
  refine own_go (instanceofNull X0 hx (g := (mkF m 8 #[.val (.ref r0), .val .null, .unset] [.null])) rfl rfl (hb hby dN_8)) ?_
  show own_Fin p.tables e below _ (s₁.setTop (mkF m 11 #[.val (.ref r0), .val .null, .unset] [(.int (0 : Int32))]))
  refine own_go (fun _ k => XS.ifYes X0.here hx rfl (pc0 := 11) (pc' := 54) rfl (hb hby dN_11) rfl (XT.i0_eq_t (by decide)) (by decide) (by decide) k) ?_
  show own_Fin p.tables e below _ (s₁.setTop (mkF m 54 #[.val (.ref r0), .val .null, .unset] []))
  refine own_go (fun _ k => XT.iconstV X0.here hx rfl (0 : Int32) (hb hby dN_54) (by decide) k) ?_
  show own_Fin p.tables e below _ (s₁.setTop (mkF m 55 #[.val (.ref r0), .val .null, .unset] [(.int (0 : Int32))]))
  refine own_retN X0 hx hlk (t := .boolean) hret (by simp) (hb hby dN_55) ?_ (by decide) (by decide)
  exact ⟨rfl, N0, e0⟩
theorem d1_0 : decode method_3_code 0 = .ok (.iload_n 0, 1) := by decide +kernel
theorem d1_1 : decode method_3_code 1 = .ok (.bipush 8, 2) := by decide +kernel
theorem d1_3 : decode method_3_code 3 = .ok (.bipush 8, 2) := by decide +kernel
theorem d1_5 : decode method_3_code 5 = .ok (.iload_n 1, 1) := by decide +kernel
theorem d1_6 : decode method_3_code 6 = .ok (.imul, 1) := by decide +kernel
theorem d1_7 : decode method_3_code 7 = .ok (.iadd, 1) := by decide +kernel
theorem d1_8 : decode method_3_code 8 = .ok (.iushr, 1) := by decide +kernel
theorem d1_9 : decode method_3_code 9 = .ok (.sipush 255, 3) := by decide +kernel
theorem d1_12 : decode method_3_code 12 = .ok (.iand, 1) := by decide +kernel
theorem d1_13 : decode method_3_code 13 = .ok (.ireturn, 1) := by decide +kernel
theorem pn1 : plainName "com/example/tremorgrid/tremorgrid/app/OptionIsGivenByPinLaw" = true := by first | (simp [plainName, overriddenIn]; done) | decide +kernel
theorem pd3 : parseMethodDescriptor "(II)I" = some ⟨[.int, .int], some .int⟩ := by decide +kernel
theorem ef1 (m : MethodId) (i1 : Int32) (i2 : Int32) : entryFrame m #[(.int i1), (.int i2)] 2 = mkF m 0 #[.val (.int i1), .val (.int i2)] [] := by first | (simp [entryFrame, mkF, argsToLocals, Value.category]; done) | rfl
def f1 (i1 : Int32) (i2 : Int32) : Int32 := ((XT.ushr i1 ((8 : Int32) + ((8 : Int32) * i2))) &&& (255 : Int32))
set_option maxRecDepth 65536 in
set_option maxHeartbeats 40000000 in
theorem rm1 (l : Launch) (Z : State) (a0 : Array Value) (hw : ∀ d ∈ tables_1, d.before a0 Z = true) (ws : List Jvm.Cond) (i1 : Int32) (i2 : Int32) (h0 : Heap) (n0 : Nat) (Z0 : n0 ≤ h0.size)  :
    own_Met l (⟨"com/example/tremorgrid/tremorgrid/app/OptionIsGivenByPinLaw", "ch", "(II)I"⟩ : MethodName) method_3_code 2 (some .int) ({ frames := 0, cells := 0, slots := 0, locals := 0 } : Room) ws #[(.int i1), (.int i2)] Z h0 0 0 (own_QP (some (.int (f1 i1 i2))) h0 n0) := by
  refine own_met (plainFor_of_name pn1) ?_
  intro p e s m below meth c s₁ hx hby hml hown hnm hret hlk hZ e0 X0
  have hml : c.maxLocals = 2 := hml
  have N0 := Fr.nil n0
  have K0 := Keep.refl h0 []
  refine own_go (fun _ k => castTop (ef1 m i1 i2) k) ?_
  show own_Fin p.tables e below _ (s₁.setTop (mkF m 0 #[.val (.int i1), .val (.int i2)] []))
  refine own_go (fun _ k => XS.iloadN X0.here hx rfl (hb hby d1_0) rfl k) ?_
  show own_Fin p.tables e below _ (s₁.setTop (mkF m 1 #[.val (.int i1), .val (.int i2)] [(.int i1)]))
  refine own_go (fun _ k => XT.bipushV X0.here hx rfl (8 : Int32) (hb hby d1_1) (by decide) k) ?_
  show own_Fin p.tables e below _ (s₁.setTop (mkF m 3 #[.val (.int i1), .val (.int i2)] [(.int (8 : Int32)), (.int i1)]))
  refine own_go (fun _ k => XT.bipushV X0.here hx rfl (8 : Int32) (hb hby d1_3) (by decide) k) ?_
  show own_Fin p.tables e below _ (s₁.setTop (mkF m 5 #[.val (.int i1), .val (.int i2)] [(.int (8 : Int32)), (.int (8 : Int32)), (.int i1)]))
  refine own_go (fun _ k => XS.iloadN X0.here hx rfl (hb hby d1_5) rfl k) ?_
  show own_Fin p.tables e below _ (s₁.setTop (mkF m 6 #[.val (.int i1), .val (.int i2)] [(.int i2), (.int (8 : Int32)), (.int (8 : Int32)), (.int i1)]))
  refine own_go (fun _ k => XS.imul X0.here hx rfl (hb hby d1_6) rfl k) ?_
  show own_Fin p.tables e below _ (s₁.setTop (mkF m 7 #[.val (.int i1), .val (.int i2)] [(.int ((8 : Int32) * i2)), (.int (8 : Int32)), (.int i1)]))
  refine own_go (fun _ k => XS.iadd X0.here hx rfl (hb hby d1_7) rfl k) ?_
  show own_Fin p.tables e below _ (s₁.setTop (mkF m 8 #[.val (.int i1), .val (.int i2)] [(.int ((8 : Int32) + ((8 : Int32) * i2))), (.int i1)]))
  refine own_go (fun _ k => XT.iushr X0.here hx rfl (hb hby d1_8) rfl k) ?_
  show own_Fin p.tables e below _ (s₁.setTop (mkF m 9 #[.val (.int i1), .val (.int i2)] [(.int (XT.ushr i1 ((8 : Int32) + ((8 : Int32) * i2))))]))
  refine own_go (fun _ k => XT.sipushV X0.here hx rfl (255 : Int32) (hb hby d1_9) (by decide) k) ?_
  show own_Fin p.tables e below _ (s₁.setTop (mkF m 12 #[.val (.int i1), .val (.int i2)] [(.int (255 : Int32)), (.int (XT.ushr i1 ((8 : Int32) + ((8 : Int32) * i2))))]))
  refine own_go (fun _ k => XS.iand X0.here hx rfl (hb hby d1_12) rfl k) ?_
  show own_Fin p.tables e below _ (s₁.setTop (mkF m 13 #[.val (.int i1), .val (.int i2)] [(.int ((XT.ushr i1 ((8 : Int32) + ((8 : Int32) * i2))) &&& (255 : Int32)))]))
  refine own_retI X0 hx hlk hret (hb hby d1_13) ?_ (by decide) (by decide)
  exact ⟨rfl, N0, e0⟩
theorem own_narc (c : Int32) (h : ¬ c < 0 ∧ ¬ (255 : Int32) < c) : nar .char c = c := by
  have h1 : 0 ≤ c.toInt := by have := h.1; rw [XT.negI32] at this; omega
  have h2 : c.toInt ≤ 255 := by
    have := h.2; rw [Int32.lt_iff_toInt_lt] at this
    have h5 : (255 : Int32).toInt = 255 := by decide
    omega
  show c.toUInt32.toUInt16.toUInt32.toInt32 = c
  apply Int32.toInt_inj.mp
  have hb : c.toInt = (c.toBitVec.toNat : Int).bmod (2 ^ 32) := BitVec.toInt_eq_toNat_bmod c.toBitVec
  have hn := c.toBitVec.isLt
  have e1 : c.toBitVec.toNat < 256 := by
    rw [hb, Int.bmod_def] at h1 h2
    split at h1 <;> omega
  have e2 : (c.toUInt32.toUInt16.toUInt32.toInt32).toBitVec.toNat = c.toBitVec.toNat % 65536 := rfl
  have hb2 : (c.toUInt32.toUInt16.toUInt32.toInt32).toInt = (((c.toUInt32.toUInt16.toUInt32.toInt32).toBitVec.toNat : Nat) : Int).bmod (2 ^ 32) := BitVec.toInt_eq_toNat_bmod _
  rw [hb2, hb, e2, Nat.mod_eq_of_lt (by omega)]
theorem own_b255 (i : Int32) : ¬ (i &&& (255 : Int32)) < 0 ∧ ¬ (255 : Int32) < (i &&& 255) := by
  rw [XT.negI32, Int32.lt_iff_toInt_lt]
  have hm : (i &&& 255).toInt = i.toInt % (2 ^ 8 : Nat) := c_mask i 255 8 (by decide) (by decide)
  have h5 : (255 : Int32).toInt = 255 := by decide
  rw [h5, hm]; omega
theorem own_i2c (i : Int32) : (i &&& (255 : Int32)).toUInt32.toUInt16.toUInt32.toInt32 = i &&& 255 := own_narc _ (own_b255 i)
theorem own_up {cs : List Int32} (h : ∀ c ∈ cs, ¬ c < 0 ∧ ¬ (255 : Int32) < c) : ∀ c ∈ cs, ¬ c < 0 ∧ ¬ (65535 : Int32) < c := fun c hc => by
  refine ⟨(h c hc).1, fun q => (h c hc).2 ?_⟩
  rw [Int32.lt_iff_toInt_lt] at *
  have h1 : (65535 : Int32).toInt = 65535 := by decide
  have h2 : (255 : Int32).toInt = 255 := by decide
  omega
def own_c (i k : Int32) : Int32 := nar .char ((f1 i k).toUInt32.toUInt16.toUInt32.toInt32)
def own_cs (i : Int32) : List Int32 := if i &&& 3 = 0 then [] else if i &&& 3 = 1 then [own_c i 0] else if i &&& 3 = 2 then [own_c i 0, own_c i 1] else [own_c i 0, own_c i 1, own_c i 2]
theorem own_chr8 (i : Int32) : nar .char ((i &&& (255 : Int32)).toUInt32.toUInt16.toUInt32.toInt32) = i &&& 255 := by
  rw [own_i2c]; exact own_narc _ (own_b255 i)
theorem own_chr (i k : Int32) : ¬ own_c i k < 0 ∧ ¬ (255 : Int32) < own_c i k := by
  have hc : own_c i k = XT.ushr i ((8 : Int32) + (8 : Int32) * k) &&& 255 := own_chr8 _
  rw [hc, XT.negI32, Int32.lt_iff_toInt_lt]
  generalize XT.ushr i ((8 : Int32) + (8 : Int32) * k) = y
  have hm : (y &&& 255).toInt = y.toInt % (2 ^ 8 : Nat) := c_mask y 255 8 (by decide) (by decide)
  have h5 : (255 : Int32).toInt = 255 := by decide
  rw [h5, hm]; omega
theorem own_len4 (i : Int32) : i &&& 3 = 0 ∨ i &&& 3 = 1 ∨ i &&& 3 = 2 ∨ i &&& 3 = 3 := by
  have hm : (i &&& 3).toInt = i.toInt % (2 ^ 2 : Nat) := c_mask i 3 2 (by decide) (by decide)
  have h : (i &&& 3).toInt = 0 ∨ (i &&& 3).toInt = 1 ∨ (i &&& 3).toInt = 2 ∨ (i &&& 3).toInt = 3 := by omega
  rcases h with h | h | h | h
  · exact Or.inl (Int32.toInt_inj.mp h)
  · exact Or.inr (Or.inl (Int32.toInt_inj.mp h))
  · exact Or.inr (Or.inr (Or.inl (Int32.toInt_inj.mp h)))
  · exact Or.inr (Or.inr (Or.inr (Int32.toInt_inj.mp h)))
theorem d2_0 : decode method_4_code 0 = .ok (.iload_n 0, 1) := by decide +kernel
theorem d2_1 : decode method_4_code 1 = .ok (.iconst 3, 1) := by decide +kernel
theorem d2_2 : decode method_4_code 2 = .ok (.iand, 1) := by decide +kernel
theorem d2_3 : decode method_4_code 3 = .ok (.istore_n 1, 1) := by decide +kernel
theorem d2_4 : decode method_4_code 4 = .ok (.iload_n 1, 1) := by decide +kernel
theorem d2_5 : decode method_4_code 5 = .ok (.newarray .char, 2) := by decide +kernel
theorem d2_7 : decode method_4_code 7 = .ok (.astore_n 2, 1) := by decide +kernel
theorem d2_8 : decode method_4_code 8 = .ok (.iload_n 1, 1) := by decide +kernel
theorem d2_9 : decode method_4_code 9 = .ok (.ifCond .le 12, 3) := by decide +kernel
theorem d2_12 : decode method_4_code 12 = .ok (.aload_n 2, 1) := by decide +kernel
theorem d2_13 : decode method_4_code 13 = .ok (.iconst 0, 1) := by decide +kernel
theorem d2_14 : decode method_4_code 14 = .ok (.iload_n 0, 1) := by decide +kernel
theorem d2_15 : decode method_4_code 15 = .ok (.iconst 0, 1) := by decide +kernel
theorem d2_16 : decode method_4_code 16 = .ok (.invokestatic 39, 3) := by decide +kernel
theorem d2_19 : decode method_4_code 19 = .ok (.i2c, 1) := by decide +kernel
theorem d2_20 : decode method_4_code 20 = .ok (.castore, 1) := by decide +kernel
theorem d2_21 : decode method_4_code 21 = .ok (.iload_n 1, 1) := by decide +kernel
theorem d2_22 : decode method_4_code 22 = .ok (.iconst 1, 1) := by decide +kernel
theorem d2_23 : decode method_4_code 23 = .ok (.if_icmp .le 12, 3) := by decide +kernel
theorem d2_26 : decode method_4_code 26 = .ok (.aload_n 2, 1) := by decide +kernel
theorem d2_27 : decode method_4_code 27 = .ok (.iconst 1, 1) := by decide +kernel
theorem d2_28 : decode method_4_code 28 = .ok (.iload_n 0, 1) := by decide +kernel
theorem d2_29 : decode method_4_code 29 = .ok (.iconst 1, 1) := by decide +kernel
theorem d2_30 : decode method_4_code 30 = .ok (.invokestatic 39, 3) := by decide +kernel
theorem d2_33 : decode method_4_code 33 = .ok (.i2c, 1) := by decide +kernel
theorem d2_34 : decode method_4_code 34 = .ok (.castore, 1) := by decide +kernel
theorem d2_35 : decode method_4_code 35 = .ok (.iload_n 1, 1) := by decide +kernel
theorem d2_36 : decode method_4_code 36 = .ok (.iconst 2, 1) := by decide +kernel
theorem d2_37 : decode method_4_code 37 = .ok (.if_icmp .le 12, 3) := by decide +kernel
theorem d2_40 : decode method_4_code 40 = .ok (.aload_n 2, 1) := by decide +kernel
theorem d2_41 : decode method_4_code 41 = .ok (.iconst 2, 1) := by decide +kernel
theorem d2_42 : decode method_4_code 42 = .ok (.iload_n 0, 1) := by decide +kernel
theorem d2_43 : decode method_4_code 43 = .ok (.iconst 2, 1) := by decide +kernel
theorem d2_44 : decode method_4_code 44 = .ok (.invokestatic 39, 3) := by decide +kernel
theorem d2_47 : decode method_4_code 47 = .ok (.i2c, 1) := by decide +kernel
theorem d2_48 : decode method_4_code 48 = .ok (.castore, 1) := by decide +kernel
theorem d2_49 : decode method_4_code 49 = .ok (.new 43, 3) := by decide +kernel
theorem d2_52 : decode method_4_code 52 = .ok (.dup, 1) := by decide +kernel
theorem d2_53 : decode method_4_code 53 = .ok (.aload_n 2, 1) := by decide +kernel
theorem d2_54 : decode method_4_code 54 = .ok (.invokespecial 45, 3) := by decide +kernel
theorem d2_57 : decode method_4_code 57 = .ok (.areturn, 1) := by decide +kernel
theorem pd4 : parseMethodDescriptor "(I)Ljava/lang/String;" = some ⟨[.int], some (.object "java/lang/String")⟩ := by decide +kernel
theorem ef2 (m : MethodId) (i1 : Int32) : entryFrame m #[(.int i1)] 3 = mkF m 0 #[.val (.int i1), .unset, .unset] [] := by first | (simp [entryFrame, mkF, argsToLocals, Value.category]; done) | rfl
set_option maxRecDepth 65536 in
set_option maxHeartbeats 40000000 in
theorem rm2 (l : Launch) (Z : State) (a0 : Array Value) (hw : ∀ d ∈ tables_1, d.before a0 Z = true) (ws : List Jvm.Cond) (i1 : Int32)  (h0 : Heap) (n0 : Nat) (Z0 : n0 ≤ h0.size) (ic : Int32) (SC : Sta Z Z.heap "java/lang/String" "COMPACT_STRINGS" "Z" (.int ic)) (hz : ¬ ic = 0) (O0 : Old Z n0 h0) (hheld : Jvm.Lit.constHeld Z "java/lang/String" 7) (hcw : Jvm.Lit.compactW.before a0 Z = true) :
    own_MetW l (⟨"com/example/tremorgrid/tremorgrid/app/OptionIsGivenByPinLaw", "mk", "(I)Ljava/lang/String;"⟩ : MethodName) method_4_code 3 (some (.object "java/lang/String")) ({ frames := 4, cells := 4, slots := 10, locals := 66 } : Room) ws #[(.int i1)] Z h0 (fun vm => own_LO Z vm h0 h0.size) 4 10 (fun v h vm L => ∃ a, v = some (.ref a) ∧ Fr n0 L ∧ Keep h0 h [] ∧ h0.size ≤ a ∧ own_Str Z h a (own_cs i1) h.size ∧ own_LO Z vm h h.size) := by
  refine own_metW (plainFor_of_name pn1) ?_
  intro p e s m below meth c s₁ hx hby hml hown hnm hret hlk hZ hh0 e0 LO0 hS0 X0
  have hml : c.maxLocals = 3 := hml
  have N0 := Fr.nil n0
  have K0 := Keep.refl h0 []
  have hws : ∀ d ∈ StrChars.Road.words, d.before a0 Z = true := fun d hd => hw d ((by decide +kernel : ∀ d ∈ StrChars.Road.words, d ∈ tables_1) d hd)
  refine own_go (fun _ k => castTop (ef2 m i1) k) ?_
  show own_Fin p.tables e below _ (s₁.setTop (mkF m 0 #[.val (.int i1), .unset, .unset] []))
  refine own_go (fun _ k => XS.iloadN X0.here hx rfl (hb hby d2_0) rfl k) ?_
  show own_Fin p.tables e below _ (s₁.setTop (mkF m 1 #[.val (.int i1), .unset, .unset] [(.int i1)]))
  refine own_go (fun _ k => XT.iconstV X0.here hx rfl (3 : Int32) (hb hby d2_1) (by decide) k) ?_
  show own_Fin p.tables e below _ (s₁.setTop (mkF m 2 #[.val (.int i1), .unset, .unset] [(.int (3 : Int32)), (.int i1)]))
  refine own_go (fun _ k => XS.iand X0.here hx rfl (hb hby d2_2) rfl k) ?_
  show own_Fin p.tables e below _ (s₁.setTop (mkF m 3 #[.val (.int i1), .unset, .unset] [(.int (i1 &&& (3 : Int32)))]))
  refine own_go (fun _ k => XS.istoreN X0.here hx rfl (hb hby d2_3) rfl (l' := #[.val (.int i1), .val (.int (i1 &&& (3 : Int32))), .unset]) rfl k) ?_
  show own_Fin p.tables e below _ (s₁.setTop (mkF m 4 #[.val (.int i1), .val (.int (i1 &&& (3 : Int32))), .unset] []))
  rcases own_len4 i1 with q | q | q | q
  · rw [q]
    show own_Fin p.tables e below _ (s₁.setTop (mkF m 4 #[.val (.int i1), .val (.int (0 : Int32)), .unset] []))
    refine own_go (fun _ k => XS.iloadN X0.here hx rfl (hb hby d2_4) rfl k) ?_
    show own_Fin p.tables e below _ (s₁.setTop (mkF m 5 #[.val (.int i1), .val (.int (0 : Int32)), .unset] [(.int (0 : Int32))]))
    obtain ⟨T1, h1, k1, X1, e1, E1, A1, st1⟩ := newP X0 hx hZ (hw _ (List.mem_of_getElem? (i := 4) rfl)) e0 (g := (mkF m 5 #[.val (.int i1), .val (.int (0 : Int32)), .unset] [(.int (0 : Int32))])) rfl (hb hby d2_5) rfl (by decide) (cap := 0) (by decide) (by decide) (by decide) (by decide)
    obtain ⟨a1, g1⟩ : ∃ z, z = h0.size := ⟨_, rfl⟩
    rw [← g1] at A1 st1
    have q1 : h0.size ≤ a1 := Nat.le_trans K0.1 (Nat.le_of_eq g1.symm)
    have z1 : n0 ≤ a1 := Nat.le_trans Z0 q1
    have LO_1 := LO0.ext E1
    have O_1 := O0.ext E1
    have K1 := K0.ext E1
    have Va1 : Arv Z h1 a1 k1 .char (0 : Int32) [] (.int (0 : Int32)) := (Arv.new A1 (by decide)).pad (pad_rep [] (.int (0 : Int32)) 0)
    refine own_go st1 ?_
    show own_Fin p.tables e below _ (T1.setTop (mkF m 7 #[.val (.int i1), .val (.int (0 : Int32)), .unset] [(.ref a1)]))
    refine own_go (fun _ k => XS.astoreN X1.here hx rfl (hb hby d2_7) rfl rfl (l' := #[.val (.int i1), .val (.int (0 : Int32)), .val (.ref a1)]) rfl k) ?_
    show own_Fin p.tables e below _ (T1.setTop (mkF m 8 #[.val (.int i1), .val (.int (0 : Int32)), .val (.ref a1)] []))
    refine own_go (fun _ k => XS.iloadN X1.here hx rfl (hb hby d2_8) rfl k) ?_
    show own_Fin p.tables e below _ (T1.setTop (mkF m 9 #[.val (.int i1), .val (.int (0 : Int32)), .val (.ref a1)] [(.int (0 : Int32))]))
    refine own_go (fun _ k => XS.ifYes X1.here hx rfl (pc0 := 9) (pc' := 21) rfl (hb hby d2_9) rfl (XT.i0_le_t (by decide)) (by decide) (by decide) k) ?_
    show own_Fin p.tables e below _ (T1.setTop (mkF m 21 #[.val (.int i1), .val (.int (0 : Int32)), .val (.ref a1)] []))
    refine own_go (fun _ k => XS.iloadN X1.here hx rfl (hb hby d2_21) rfl k) ?_
    show own_Fin p.tables e below _ (T1.setTop (mkF m 22 #[.val (.int i1), .val (.int (0 : Int32)), .val (.ref a1)] [(.int (0 : Int32))]))
    refine own_go (fun _ k => XT.iconstV X1.here hx rfl (1 : Int32) (hb hby d2_22) (by decide) k) ?_
    show own_Fin p.tables e below _ (T1.setTop (mkF m 23 #[.val (.int i1), .val (.int (0 : Int32)), .val (.ref a1)] [(.int (1 : Int32)), (.int (0 : Int32))]))
    refine own_go (fun _ k => XS.icmpYes X1.here hx rfl (pc0 := 23) (pc' := 35) rfl (hb hby d2_23) rfl (XT.ii_le_t (by decide)) (by decide) (by decide) k) ?_
    show own_Fin p.tables e below _ (T1.setTop (mkF m 35 #[.val (.int i1), .val (.int (0 : Int32)), .val (.ref a1)] []))
    refine own_go (fun _ k => XS.iloadN X1.here hx rfl (hb hby d2_35) rfl k) ?_
    show own_Fin p.tables e below _ (T1.setTop (mkF m 36 #[.val (.int i1), .val (.int (0 : Int32)), .val (.ref a1)] [(.int (0 : Int32))]))
    refine own_go (fun _ k => XT.iconstV X1.here hx rfl (2 : Int32) (hb hby d2_36) (by decide) k) ?_
    show own_Fin p.tables e below _ (T1.setTop (mkF m 37 #[.val (.int i1), .val (.int (0 : Int32)), .val (.ref a1)] [(.int (2 : Int32)), (.int (0 : Int32))]))
    refine own_go (fun _ k => XS.icmpYes X1.here hx rfl (pc0 := 37) (pc' := 49) rfl (hb hby d2_37) rfl (XT.ii_le_t (by decide)) (by decide) (by decide) k) ?_
    show own_Fin p.tables e below _ (T1.setTop (mkF m 49 #[.val (.int i1), .val (.int (0 : Int32)), .val (.ref a1)] []))
    obtain ⟨T2, h2, X2, e2, E2, A2, D2, -, st2⟩ := newO X1 hx hZ hown (hw _ (List.mem_of_getElem? (i := 5) rfl)) (hw _ (List.mem_of_getElem? (i := 6) rfl)) (hw _ (List.mem_of_getElem? (i := 7) rfl)) e1 (g := (mkF m 49 #[.val (.int i1), .val (.int (0 : Int32)), .val (.ref a1)] [])) rfl (hb hby d2_49) (by decide) (by decide)
    obtain ⟨a2, g2⟩ : ∃ z, z = h1.size := ⟨_, rfl⟩
    rw [← g2] at A2 D2 st2
    have q2 : h0.size ≤ a2 := Nat.le_trans K1.1 (Nat.le_of_eq g2.symm)
    have z2 : n0 ≤ a2 := Nat.le_trans Z0 q2
    have ne_a1_a2 : a1 ≠ a2 := fun q => absurd (q ▸ Va1.lt) (by rw [g2]; exact Nat.lt_irrefl _)
    have LO_2 := LO_1.ext E2
    have O_2 := O_1.ext E2
    have Va1_2 := Va1.ext E2
    have K2 := K1.ext E2
    have Fa2_value : Fld Z h2 a2 "java/lang/String" "value" "[B" .null := D2 (Or.inr (hw _ (List.mem_of_getElem? (i := 20) rfl))) (ty := (.array .byte)) (by decide)
    have Fa2_coder : Fld Z h2 a2 "java/lang/String" "coder" "B" (.int (0 : Int32)) := D2 (Or.inr (hw _ (List.mem_of_getElem? (i := 21) rfl))) (ty := .byte) (by decide)
    refine own_go st2 ?_
    show own_Fin p.tables e below _ (T2.setTop (mkF m 52 #[.val (.int i1), .val (.int (0 : Int32)), .val (.ref a1)] [(.ref a2)]))
    refine own_go (fun _ k => XS.dup X2.here hx rfl (hb hby d2_52) rfl rfl k) ?_
    show own_Fin p.tables e below _ (T2.setTop (mkF m 53 #[.val (.int i1), .val (.int (0 : Int32)), .val (.ref a1)] [(.ref a2), (.ref a2)]))
    refine own_go (fun _ k => XS.aloadN X2.here hx rfl (hb hby d2_53) rfl rfl k) ?_
    show own_Fin p.tables e below _ (T2.setTop (mkF m 54 #[.val (.int i1), .val (.int (0 : Int32)), .val (.ref a1)] [(.ref a1), (.ref a2), (.ref a2)]))
    obtain ⟨_, T3, L3, X3, hZ3, hS3, ho3, ⟨rfl, M3, KK3, S3, LO3⟩, st3⟩ := own_callCW X2 hx hZ hS0 (Nat.zero_le _) hown rfl (hw _ (List.mem_of_getElem? (i := 8) rfl)) (hw _ (List.mem_of_getElem? (i := 9) rfl)) (hw _ (List.mem_of_getElem? (i := 7) rfl)) (hw _ (List.mem_of_getElem? (i := 10) rfl)) (by decide) (W := 1) (rmE1 l Z a0 hw [] a2 a1 (.int (0 : Int32)) h2 n0 (Nat.le_trans Z0 K2.1) A2 Fa2_value Fa2_coder z2 O_2 hheld hcw k1 (.int (0 : Int32)) Va1_2) (fun vm hv => own_LO.warm (LO_2.mono K2.1) hv) (by decide) (by decide) e2 (g := (mkF m 54 #[.val (.int i1), .val (.int (0 : Int32)), .val (.ref a1)] [(.ref a1), (.ref a2), (.ref a2)])) rfl (by rw [hml]; rfl) (argsL := [(.ref a1)]) (rest := [(.ref a2)]) rfl (lenOf pd1 rfl) rfl (by show 2 * 0 + _ ≤ _; exact Nat.le_of_eq rfl) (hb hby d2_54) (by decide) (by decide)
    have N3 := Fr.app N0 M3
    have O_3 := O_2.keep KK3 (allS z2 all0)
    have Va1_3 := Va1_2.keep KK3 (ninS ne_a1_a2 nin0)
    have Ea2_3 := A2.keep KK3
    have K3 := K2.trans KK3 (allS (Or.inr q2) all0)
    refine own_go st3 ?_
    show own_Fin p.tables e below _ (T3.setTop (mkF m 57 #[.val (.int i1), .val (.int (0 : Int32)), .val (.ref a1)] [(.ref a2)]))
    refine own_retAW X3 hx hlk hS3 (Nat.le_refl _) hret rfl rfl (hb hby d2_57) ?_ (by decide) (by decide)
    have hcs : own_cs i1 = ([] : List Int32) := by unfold own_cs; rw [if_pos q] <;> rfl
    exact ⟨a2, rfl, N3, K3, q2, hcs ▸ S3, (own_LO.warm (LO3.mono (Nat.le_refl _)) X3.warmed)⟩
  · rw [q]
    show own_Fin p.tables e below _ (s₁.setTop (mkF m 4 #[.val (.int i1), .val (.int (1 : Int32)), .unset] []))
    refine own_go (fun _ k => XS.iloadN X0.here hx rfl (hb hby d2_4) rfl k) ?_
    show own_Fin p.tables e below _ (s₁.setTop (mkF m 5 #[.val (.int i1), .val (.int (1 : Int32)), .unset] [(.int (1 : Int32))]))
    obtain ⟨T4, h4, k4, X4, e4, E4, A4, st4⟩ := newP X0 hx hZ (hw _ (List.mem_of_getElem? (i := 4) rfl)) e0 (g := (mkF m 5 #[.val (.int i1), .val (.int (1 : Int32)), .unset] [(.int (1 : Int32))])) rfl (hb hby d2_5) rfl (by decide) (cap := 1) (by decide) (by decide) (by decide) (by decide)
    obtain ⟨a4, g4⟩ : ∃ z, z = h0.size := ⟨_, rfl⟩
    rw [← g4] at A4 st4
    have q4 : h0.size ≤ a4 := Nat.le_trans K0.1 (Nat.le_of_eq g4.symm)
    have z4 : n0 ≤ a4 := Nat.le_trans Z0 q4
    have LO_4 := LO0.ext E4
    have O_4 := O0.ext E4
    have K4 := K0.ext E4
    have Va4 : Arv Z h4 a4 k4 .char (1 : Int32) [(.int (0 : Int32))] (.int (0 : Int32)) := (Arv.new A4 (by decide)).pad (pad_rep [] (.int (0 : Int32)) 1)
    refine own_go st4 ?_
    show own_Fin p.tables e below _ (T4.setTop (mkF m 7 #[.val (.int i1), .val (.int (1 : Int32)), .unset] [(.ref a4)]))
    refine own_go (fun _ k => XS.astoreN X4.here hx rfl (hb hby d2_7) rfl rfl (l' := #[.val (.int i1), .val (.int (1 : Int32)), .val (.ref a4)]) rfl k) ?_
    show own_Fin p.tables e below _ (T4.setTop (mkF m 8 #[.val (.int i1), .val (.int (1 : Int32)), .val (.ref a4)] []))
    refine own_go (fun _ k => XS.iloadN X4.here hx rfl (hb hby d2_8) rfl k) ?_
    show own_Fin p.tables e below _ (T4.setTop (mkF m 9 #[.val (.int i1), .val (.int (1 : Int32)), .val (.ref a4)] [(.int (1 : Int32))]))
    refine own_go (fun _ k => XS.ifNo X4.here hx rfl (hb hby d2_9) rfl (XT.i0_le_f (by decide)) k) ?_
    show own_Fin p.tables e below _ (T4.setTop (mkF m 12 #[.val (.int i1), .val (.int (1 : Int32)), .val (.ref a4)] []))
    refine own_go (fun _ k => XS.aloadN X4.here hx rfl (hb hby d2_12) rfl rfl k) ?_
    show own_Fin p.tables e below _ (T4.setTop (mkF m 13 #[.val (.int i1), .val (.int (1 : Int32)), .val (.ref a4)] [(.ref a4)]))
    refine own_go (fun _ k => XT.iconstV X4.here hx rfl (0 : Int32) (hb hby d2_13) (by decide) k) ?_
    show own_Fin p.tables e below _ (T4.setTop (mkF m 14 #[.val (.int i1), .val (.int (1 : Int32)), .val (.ref a4)] [(.int (0 : Int32)), (.ref a4)]))
    refine own_go (fun _ k => XS.iloadN X4.here hx rfl (hb hby d2_14) rfl k) ?_
    show own_Fin p.tables e below _ (T4.setTop (mkF m 15 #[.val (.int i1), .val (.int (1 : Int32)), .val (.ref a4)] [(.int i1), (.int (0 : Int32)), (.ref a4)]))
    refine own_go (fun _ k => XT.iconstV X4.here hx rfl (0 : Int32) (hb hby d2_15) (by decide) k) ?_
    show own_Fin p.tables e below _ (T4.setTop (mkF m 16 #[.val (.int i1), .val (.int (1 : Int32)), .val (.ref a4)] [(.int (0 : Int32)), (.int i1), (.int (0 : Int32)), (.ref a4)]))
    obtain ⟨_, T5, L5, X5, ⟨rfl, M5, e5⟩, st5⟩ := own_callS X4 hx hZ hown (hw _ (List.mem_of_getElem? (i := 26) rfl)) (hw _ (List.mem_of_getElem? (i := 27) rfl)) (hw _ (List.mem_of_getElem? (i := 2) rfl)) (hw _ (List.mem_of_getElem? (i := 28) rfl)) (by decide) (W := 2) (rm1 l Z a0 hw [] i1 (0 : Int32) h4 n0 (Nat.le_trans Z0 K4.1) ) (by decide) (by decide) e4 (g := (mkF m 16 #[.val (.int i1), .val (.int (1 : Int32)), .val (.ref a4)] [(.int (0 : Int32)), (.int i1), (.int (0 : Int32)), (.ref a4)])) rfl (by rw [hml]; rfl) (argsL := [(.int i1), (.int (0 : Int32))]) (rest := [(.int (0 : Int32)), (.ref a4)]) rfl (lenOf pd3 rfl) rfl (by show 2 * 0 + _ ≤ _; exact Nat.le_of_eq rfl) (hb hby d2_16) (by decide) (by decide)
    have N5 := Fr.app N0 M5
    refine own_go st5 ?_
    show own_Fin p.tables e below _ (T5.setTop (mkF m 19 #[.val (.int i1), .val (.int (1 : Int32)), .val (.ref a4)] [(.int (f1 i1 (0 : Int32))), (.int (0 : Int32)), (.ref a4)]))
    refine own_go (fun _ k => XT.i2c X5.here hx rfl (hb hby d2_19) rfl k) ?_
    show own_Fin p.tables e below _ (T5.setTop (mkF m 20 #[.val (.int i1), .val (.int (1 : Int32)), .val (.ref a4)] [(.int ((f1 i1 (0 : Int32)).toUInt32.toUInt16.toUInt32.toInt32)), (.int (0 : Int32)), (.ref a4)]))
    obtain ⟨c6, Ar6, q6, S6, M6, H6, U6⟩ := id Va4
    obtain ⟨T6, h6, X6, e6, W6, st6⟩ := stC X5 hx hZ e5 Ar6 (j := (0 : Int32)) (inb_of S6 ⟨(by decide), (by decide)⟩) (g := (mkF m 20 #[.val (.int i1), .val (.int (1 : Int32)), .val (.ref a4)] [(.int ((f1 i1 (0 : Int32)).toUInt32.toUInt16.toUInt32.toInt32)), (.int (0 : Int32)), (.ref a4)])) rfl rfl (hb hby d2_20)
    have K6 := K4.wr W6 (Or.inr q4)
    have N6 := Fr.snoc X6 N5 z4
    have LO_6 := LO_4.keepB (Keep.of_wr W6) q4
    have O_6 := O_4.wr W6 z4
    have Va4_6 : Arv Z h6 a4 k4 .char (1 : Int32) [(.int (nar .char ((f1 i1 (0 : Int32)).toUInt32.toUInt16.toUInt32.toInt32)))] (.int (0 : Int32)) := Arv.set Ar6 q6 S6 M6 H6 U6 (fits_nar_char _) W6 0 rfl (Nat.le_of_ble_eq_true rfl)
    refine own_go st6 ?_
    show own_Fin p.tables e below _ (T6.setTop (mkF m 21 #[.val (.int i1), .val (.int (1 : Int32)), .val (.ref a4)] []))
    refine own_go (fun _ k => XS.iloadN X6.here hx rfl (hb hby d2_21) rfl k) ?_
    show own_Fin p.tables e below _ (T6.setTop (mkF m 22 #[.val (.int i1), .val (.int (1 : Int32)), .val (.ref a4)] [(.int (1 : Int32))]))
    refine own_go (fun _ k => XT.iconstV X6.here hx rfl (1 : Int32) (hb hby d2_22) (by decide) k) ?_
    show own_Fin p.tables e below _ (T6.setTop (mkF m 23 #[.val (.int i1), .val (.int (1 : Int32)), .val (.ref a4)] [(.int (1 : Int32)), (.int (1 : Int32))]))
    refine own_go (fun _ k => XS.icmpYes X6.here hx rfl (pc0 := 23) (pc' := 35) rfl (hb hby d2_23) rfl (XT.ii_le_t (by decide)) (by decide) (by decide) k) ?_
    show own_Fin p.tables e below _ (T6.setTop (mkF m 35 #[.val (.int i1), .val (.int (1 : Int32)), .val (.ref a4)] []))
    refine own_go (fun _ k => XS.iloadN X6.here hx rfl (hb hby d2_35) rfl k) ?_
    show own_Fin p.tables e below _ (T6.setTop (mkF m 36 #[.val (.int i1), .val (.int (1 : Int32)), .val (.ref a4)] [(.int (1 : Int32))]))
    refine own_go (fun _ k => XT.iconstV X6.here hx rfl (2 : Int32) (hb hby d2_36) (by decide) k) ?_
    show own_Fin p.tables e below _ (T6.setTop (mkF m 37 #[.val (.int i1), .val (.int (1 : Int32)), .val (.ref a4)] [(.int (2 : Int32)), (.int (1 : Int32))]))
    refine own_go (fun _ k => XS.icmpYes X6.here hx rfl (pc0 := 37) (pc' := 49) rfl (hb hby d2_37) rfl (XT.ii_le_t (by decide)) (by decide) (by decide) k) ?_
    show own_Fin p.tables e below _ (T6.setTop (mkF m 49 #[.val (.int i1), .val (.int (1 : Int32)), .val (.ref a4)] []))
    obtain ⟨T7, h7, X7, e7, E7, A7, D7, -, st7⟩ := newO X6 hx hZ hown (hw _ (List.mem_of_getElem? (i := 5) rfl)) (hw _ (List.mem_of_getElem? (i := 6) rfl)) (hw _ (List.mem_of_getElem? (i := 7) rfl)) e6 (g := (mkF m 49 #[.val (.int i1), .val (.int (1 : Int32)), .val (.ref a4)] [])) rfl (hb hby d2_49) (by decide) (by decide)
    obtain ⟨a7, g7⟩ : ∃ z, z = h6.size := ⟨_, rfl⟩
    rw [← g7] at A7 D7 st7
    have q7 : h0.size ≤ a7 := Nat.le_trans K6.1 (Nat.le_of_eq g7.symm)
    have z7 : n0 ≤ a7 := Nat.le_trans Z0 q7
    have ne_a4_a7 : a4 ≠ a7 := fun q => absurd (q ▸ Va4_6.lt) (by rw [g7]; exact Nat.lt_irrefl _)
    have LO_7 := LO_6.ext E7
    have O_7 := O_6.ext E7
    have Va4_7 := Va4_6.ext E7
    have K7 := K6.ext E7
    have Fa7_value : Fld Z h7 a7 "java/lang/String" "value" "[B" .null := D7 (Or.inr (hw _ (List.mem_of_getElem? (i := 20) rfl))) (ty := (.array .byte)) (by decide)
    have Fa7_coder : Fld Z h7 a7 "java/lang/String" "coder" "B" (.int (0 : Int32)) := D7 (Or.inr (hw _ (List.mem_of_getElem? (i := 21) rfl))) (ty := .byte) (by decide)
    refine own_go st7 ?_
    show own_Fin p.tables e below _ (T7.setTop (mkF m 52 #[.val (.int i1), .val (.int (1 : Int32)), .val (.ref a4)] [(.ref a7)]))
    refine own_go (fun _ k => XS.dup X7.here hx rfl (hb hby d2_52) rfl rfl k) ?_
    show own_Fin p.tables e below _ (T7.setTop (mkF m 53 #[.val (.int i1), .val (.int (1 : Int32)), .val (.ref a4)] [(.ref a7), (.ref a7)]))
    refine own_go (fun _ k => XS.aloadN X7.here hx rfl (hb hby d2_53) rfl rfl k) ?_
    show own_Fin p.tables e below _ (T7.setTop (mkF m 54 #[.val (.int i1), .val (.int (1 : Int32)), .val (.ref a4)] [(.ref a4), (.ref a7), (.ref a7)]))
    have hp8 : ∀ c ∈ ([(nar .char ((f1 i1 (0 : Int32)).toUInt32.toUInt16.toUInt32.toInt32))] : List Int32), ¬ c < 0 ∧ ¬ (255 : Int32) < c := fun c hc => by simp only [List.mem_cons, List.not_mem_nil, or_false] at hc; rcases hc with rfl <;> exact own_chr i1 _
    obtain ⟨_, T8, L8, X8, ⟨rfl, M8, KK8, -, Gc8, t8, kb8, zt8, qt8, nt8, Gv8, Ga8⟩, st8⟩ := own_callCB X7 hx hZ hown rfl (hw _ (List.mem_of_getElem? (i := 8) rfl)) (hw _ (List.mem_of_getElem? (i := 9) rfl)) (hw _ (List.mem_of_getElem? (i := 10) rfl)) (by decide) (W := 1) (StrChars.Road.backV (W := 1) hZ hws (kI := 4) (hw _ (List.mem_of_getElem? (i := 6) rfl)) (cs := ([(nar .char ((f1 i1 (0 : Int32)).toUInt32.toUInt16.toUInt32.toInt32))] : List Int32)) (bs := ([(nar .char ((f1 i1 (0 : Int32)).toUInt32.toUInt16.toUInt32.toInt32))] : List Int32).map (fun c => c.toInt8.toInt32)) (n := 1) z7 (Nat.le_trans Z0 K7.1) A7 Fa7_value Fa7_coder Va4_7 (SC.ext O_7.2) hz rfl rfl (by decide) (by decide) hp8 rfl (by decide) (by decide)) e7 (g := (mkF m 54 #[.val (.int i1), .val (.int (1 : Int32)), .val (.ref a4)] [(.ref a4), (.ref a7), (.ref a7)])) rfl (by rw [hml]; rfl) (argsL := [.ref a4]) (rest := [(.ref a7)]) rfl (lenOf pd1 rfl) rfl (by show 2 * 0 + _ ≤ _; exact Nat.le_of_eq rfl) (hb hby d2_54) (by decide) (by decide)
    have N8 := Fr.app N6 M8
    have LO_8 := LO_7.keepB KK8 q7
    have O_8 := O_7.keep KK8 (allS z7 all0)
    have Va4_8 := Va4_7.keep KK8 (ninS ne_a4_a7 nin0)
    have Ea7_8 := A7.keep KK8
    have K8 := K7.trans KK8 (allS (Or.inr q7) all0)
    have S8 : own_Str Z T8.heap a7 ([(nar .char ((f1 i1 (0 : Int32)).toUInt32.toUInt16.toUInt32.toInt32))] : List Int32) T8.heap.size := ⟨Ea7_8, ⟨hp8, Nat.le_of_ble_eq_true rfl⟩, Ea7_8.lt, t8, kb8, Ga8.lt, Gc8, Gv8, Ga8⟩
    refine own_go st8 ?_
    show own_Fin p.tables e below _ (T8.setTop (mkF m 57 #[.val (.int i1), .val (.int (1 : Int32)), .val (.ref a4)] [(.ref a7)]))
    refine own_retAW X8 hx hlk hS0 (Nat.zero_le _) hret rfl rfl (hb hby d2_57) ?_ (by decide) (by decide)
    have hcs : own_cs i1 = ([(nar .char ((f1 i1 (0 : Int32)).toUInt32.toUInt16.toUInt32.toInt32))] : List Int32) := by unfold own_cs; rw [if_neg (by rw [q]; decide), if_pos q] <;> rfl
    exact ⟨a7, rfl, N8, K8, q7, hcs ▸ S8, (own_LO.warm (LO_8.mono K8.1) X8.warmed)⟩
  · rw [q]
    show own_Fin p.tables e below _ (s₁.setTop (mkF m 4 #[.val (.int i1), .val (.int (2 : Int32)), .unset] []))
    refine own_go (fun _ k => XS.iloadN X0.here hx rfl (hb hby d2_4) rfl k) ?_
    show own_Fin p.tables e below _ (s₁.setTop (mkF m 5 #[.val (.int i1), .val (.int (2 : Int32)), .unset] [(.int (2 : Int32))]))
    obtain ⟨T9, h9, k9, X9, e9, E9, A9, st9⟩ := newP X0 hx hZ (hw _ (List.mem_of_getElem? (i := 4) rfl)) e0 (g := (mkF m 5 #[.val (.int i1), .val (.int (2 : Int32)), .unset] [(.int (2 : Int32))])) rfl (hb hby d2_5) rfl (by decide) (cap := 2) (by decide) (by decide) (by decide) (by decide)
    obtain ⟨a9, g9⟩ : ∃ z, z = h0.size := ⟨_, rfl⟩
    rw [← g9] at A9 st9
    have q9 : h0.size ≤ a9 := Nat.le_trans K0.1 (Nat.le_of_eq g9.symm)
    have z9 : n0 ≤ a9 := Nat.le_trans Z0 q9
    have LO_9 := LO0.ext E9
    have O_9 := O0.ext E9
    have K9 := K0.ext E9
    have Va9 : Arv Z h9 a9 k9 .char (2 : Int32) [(.int (0 : Int32)), (.int (0 : Int32))] (.int (0 : Int32)) := (Arv.new A9 (by decide)).pad (pad_rep [] (.int (0 : Int32)) 2)
    refine own_go st9 ?_
    show own_Fin p.tables e below _ (T9.setTop (mkF m 7 #[.val (.int i1), .val (.int (2 : Int32)), .unset] [(.ref a9)]))
    refine own_go (fun _ k => XS.astoreN X9.here hx rfl (hb hby d2_7) rfl rfl (l' := #[.val (.int i1), .val (.int (2 : Int32)), .val (.ref a9)]) rfl k) ?_
    show own_Fin p.tables e below _ (T9.setTop (mkF m 8 #[.val (.int i1), .val (.int (2 : Int32)), .val (.ref a9)] []))
    refine own_go (fun _ k => XS.iloadN X9.here hx rfl (hb hby d2_8) rfl k) ?_
    show own_Fin p.tables e below _ (T9.setTop (mkF m 9 #[.val (.int i1), .val (.int (2 : Int32)), .val (.ref a9)] [(.int (2 : Int32))]))
    refine own_go (fun _ k => XS.ifNo X9.here hx rfl (hb hby d2_9) rfl (XT.i0_le_f (by decide)) k) ?_
    show own_Fin p.tables e below _ (T9.setTop (mkF m 12 #[.val (.int i1), .val (.int (2 : Int32)), .val (.ref a9)] []))
    refine own_go (fun _ k => XS.aloadN X9.here hx rfl (hb hby d2_12) rfl rfl k) ?_
    show own_Fin p.tables e below _ (T9.setTop (mkF m 13 #[.val (.int i1), .val (.int (2 : Int32)), .val (.ref a9)] [(.ref a9)]))
    refine own_go (fun _ k => XT.iconstV X9.here hx rfl (0 : Int32) (hb hby d2_13) (by decide) k) ?_
    show own_Fin p.tables e below _ (T9.setTop (mkF m 14 #[.val (.int i1), .val (.int (2 : Int32)), .val (.ref a9)] [(.int (0 : Int32)), (.ref a9)]))
    refine own_go (fun _ k => XS.iloadN X9.here hx rfl (hb hby d2_14) rfl k) ?_
    show own_Fin p.tables e below _ (T9.setTop (mkF m 15 #[.val (.int i1), .val (.int (2 : Int32)), .val (.ref a9)] [(.int i1), (.int (0 : Int32)), (.ref a9)]))
    refine own_go (fun _ k => XT.iconstV X9.here hx rfl (0 : Int32) (hb hby d2_15) (by decide) k) ?_
    show own_Fin p.tables e below _ (T9.setTop (mkF m 16 #[.val (.int i1), .val (.int (2 : Int32)), .val (.ref a9)] [(.int (0 : Int32)), (.int i1), (.int (0 : Int32)), (.ref a9)]))
    obtain ⟨_, T10, L10, X10, ⟨rfl, M10, e10⟩, st10⟩ := own_callS X9 hx hZ hown (hw _ (List.mem_of_getElem? (i := 26) rfl)) (hw _ (List.mem_of_getElem? (i := 27) rfl)) (hw _ (List.mem_of_getElem? (i := 2) rfl)) (hw _ (List.mem_of_getElem? (i := 28) rfl)) (by decide) (W := 2) (rm1 l Z a0 hw [] i1 (0 : Int32) h9 n0 (Nat.le_trans Z0 K9.1) ) (by decide) (by decide) e9 (g := (mkF m 16 #[.val (.int i1), .val (.int (2 : Int32)), .val (.ref a9)] [(.int (0 : Int32)), (.int i1), (.int (0 : Int32)), (.ref a9)])) rfl (by rw [hml]; rfl) (argsL := [(.int i1), (.int (0 : Int32))]) (rest := [(.int (0 : Int32)), (.ref a9)]) rfl (lenOf pd3 rfl) rfl (by show 2 * 0 + _ ≤ _; exact Nat.le_of_eq rfl) (hb hby d2_16) (by decide) (by decide)
    have N10 := Fr.app N0 M10
    refine own_go st10 ?_
    show own_Fin p.tables e below _ (T10.setTop (mkF m 19 #[.val (.int i1), .val (.int (2 : Int32)), .val (.ref a9)] [(.int (f1 i1 (0 : Int32))), (.int (0 : Int32)), (.ref a9)]))
    refine own_go (fun _ k => XT.i2c X10.here hx rfl (hb hby d2_19) rfl k) ?_
    show own_Fin p.tables e below _ (T10.setTop (mkF m 20 #[.val (.int i1), .val (.int (2 : Int32)), .val (.ref a9)] [(.int ((f1 i1 (0 : Int32)).toUInt32.toUInt16.toUInt32.toInt32)), (.int (0 : Int32)), (.ref a9)]))
    obtain ⟨c11, Ar11, q11, S11, M11, H11, U11⟩ := id Va9
    obtain ⟨T11, h11, X11, e11, W11, st11⟩ := stC X10 hx hZ e10 Ar11 (j := (0 : Int32)) (inb_of S11 ⟨(by decide), (by decide)⟩) (g := (mkF m 20 #[.val (.int i1), .val (.int (2 : Int32)), .val (.ref a9)] [(.int ((f1 i1 (0 : Int32)).toUInt32.toUInt16.toUInt32.toInt32)), (.int (0 : Int32)), (.ref a9)])) rfl rfl (hb hby d2_20)
    have K11 := K9.wr W11 (Or.inr q9)
    have N11 := Fr.snoc X11 N10 z9
    have LO_11 := LO_9.keepB (Keep.of_wr W11) q9
    have O_11 := O_9.wr W11 z9
    have Va9_11 : Arv Z h11 a9 k9 .char (2 : Int32) [(.int (nar .char ((f1 i1 (0 : Int32)).toUInt32.toUInt16.toUInt32.toInt32))), (.int (0 : Int32))] (.int (0 : Int32)) := Arv.set Ar11 q11 S11 M11 H11 U11 (fits_nar_char _) W11 0 rfl (Nat.le_of_ble_eq_true rfl)
    refine own_go st11 ?_
    show own_Fin p.tables e below _ (T11.setTop (mkF m 21 #[.val (.int i1), .val (.int (2 : Int32)), .val (.ref a9)] []))
    refine own_go (fun _ k => XS.iloadN X11.here hx rfl (hb hby d2_21) rfl k) ?_
    show own_Fin p.tables e below _ (T11.setTop (mkF m 22 #[.val (.int i1), .val (.int (2 : Int32)), .val (.ref a9)] [(.int (2 : Int32))]))
    refine own_go (fun _ k => XT.iconstV X11.here hx rfl (1 : Int32) (hb hby d2_22) (by decide) k) ?_
    show own_Fin p.tables e below _ (T11.setTop (mkF m 23 #[.val (.int i1), .val (.int (2 : Int32)), .val (.ref a9)] [(.int (1 : Int32)), (.int (2 : Int32))]))
    refine own_go (fun _ k => XS.icmpNo X11.here hx rfl (hb hby d2_23) rfl (XT.ii_le_f (by decide)) k) ?_
    show own_Fin p.tables e below _ (T11.setTop (mkF m 26 #[.val (.int i1), .val (.int (2 : Int32)), .val (.ref a9)] []))
    refine own_go (fun _ k => XS.aloadN X11.here hx rfl (hb hby d2_26) rfl rfl k) ?_
    show own_Fin p.tables e below _ (T11.setTop (mkF m 27 #[.val (.int i1), .val (.int (2 : Int32)), .val (.ref a9)] [(.ref a9)]))
    refine own_go (fun _ k => XT.iconstV X11.here hx rfl (1 : Int32) (hb hby d2_27) (by decide) k) ?_
    show own_Fin p.tables e below _ (T11.setTop (mkF m 28 #[.val (.int i1), .val (.int (2 : Int32)), .val (.ref a9)] [(.int (1 : Int32)), (.ref a9)]))
    refine own_go (fun _ k => XS.iloadN X11.here hx rfl (hb hby d2_28) rfl k) ?_
    show own_Fin p.tables e below _ (T11.setTop (mkF m 29 #[.val (.int i1), .val (.int (2 : Int32)), .val (.ref a9)] [(.int i1), (.int (1 : Int32)), (.ref a9)]))
    refine own_go (fun _ k => XT.iconstV X11.here hx rfl (1 : Int32) (hb hby d2_29) (by decide) k) ?_
    show own_Fin p.tables e below _ (T11.setTop (mkF m 30 #[.val (.int i1), .val (.int (2 : Int32)), .val (.ref a9)] [(.int (1 : Int32)), (.int i1), (.int (1 : Int32)), (.ref a9)]))
    obtain ⟨_, T12, L12, X12, ⟨rfl, M12, e12⟩, st12⟩ := own_callS X11 hx hZ hown (hw _ (List.mem_of_getElem? (i := 26) rfl)) (hw _ (List.mem_of_getElem? (i := 27) rfl)) (hw _ (List.mem_of_getElem? (i := 2) rfl)) (hw _ (List.mem_of_getElem? (i := 28) rfl)) (by decide) (W := 2) (rm1 l Z a0 hw [] i1 (1 : Int32) h11 n0 (Nat.le_trans Z0 K11.1) ) (by decide) (by decide) e11 (g := (mkF m 30 #[.val (.int i1), .val (.int (2 : Int32)), .val (.ref a9)] [(.int (1 : Int32)), (.int i1), (.int (1 : Int32)), (.ref a9)])) rfl (by rw [hml]; rfl) (argsL := [(.int i1), (.int (1 : Int32))]) (rest := [(.int (1 : Int32)), (.ref a9)]) rfl (lenOf pd3 rfl) rfl (by show 2 * 0 + _ ≤ _; exact Nat.le_of_eq rfl) (hb hby d2_30) (by decide) (by decide)
    have N12 := Fr.app N11 M12
    refine own_go st12 ?_
    show own_Fin p.tables e below _ (T12.setTop (mkF m 33 #[.val (.int i1), .val (.int (2 : Int32)), .val (.ref a9)] [(.int (f1 i1 (1 : Int32))), (.int (1 : Int32)), (.ref a9)]))
    refine own_go (fun _ k => XT.i2c X12.here hx rfl (hb hby d2_33) rfl k) ?_
    show own_Fin p.tables e below _ (T12.setTop (mkF m 34 #[.val (.int i1), .val (.int (2 : Int32)), .val (.ref a9)] [(.int ((f1 i1 (1 : Int32)).toUInt32.toUInt16.toUInt32.toInt32)), (.int (1 : Int32)), (.ref a9)]))
    obtain ⟨c13, Ar13, q13, S13, M13, H13, U13⟩ := id Va9_11
    obtain ⟨T13, h13, X13, e13, W13, st13⟩ := stC X12 hx hZ e12 Ar13 (j := (1 : Int32)) (inb_of S13 ⟨(by decide), (by decide)⟩) (g := (mkF m 34 #[.val (.int i1), .val (.int (2 : Int32)), .val (.ref a9)] [(.int ((f1 i1 (1 : Int32)).toUInt32.toUInt16.toUInt32.toInt32)), (.int (1 : Int32)), (.ref a9)])) rfl rfl (hb hby d2_34)
    have K13 := K11.wr W13 (Or.inr q9)
    have N13 := Fr.snoc X13 N12 z9
    have LO_13 := LO_11.keepB (Keep.of_wr W13) q9
    have O_13 := O_11.wr W13 z9
    have Va9_13 : Arv Z h13 a9 k9 .char (2 : Int32) [(.int (nar .char ((f1 i1 (0 : Int32)).toUInt32.toUInt16.toUInt32.toInt32))), (.int (nar .char ((f1 i1 (1 : Int32)).toUInt32.toUInt16.toUInt32.toInt32)))] (.int (0 : Int32)) := Arv.set Ar13 q13 S13 M13 H13 U13 (fits_nar_char _) W13 1 rfl (Nat.le_of_ble_eq_true rfl)
    refine own_go st13 ?_
    show own_Fin p.tables e below _ (T13.setTop (mkF m 35 #[.val (.int i1), .val (.int (2 : Int32)), .val (.ref a9)] []))
    refine own_go (fun _ k => XS.iloadN X13.here hx rfl (hb hby d2_35) rfl k) ?_
    show own_Fin p.tables e below _ (T13.setTop (mkF m 36 #[.val (.int i1), .val (.int (2 : Int32)), .val (.ref a9)] [(.int (2 : Int32))]))
    refine own_go (fun _ k => XT.iconstV X13.here hx rfl (2 : Int32) (hb hby d2_36) (by decide) k) ?_
    show own_Fin p.tables e below _ (T13.setTop (mkF m 37 #[.val (.int i1), .val (.int (2 : Int32)), .val (.ref a9)] [(.int (2 : Int32)), (.int (2 : Int32))]))
    refine own_go (fun _ k => XS.icmpYes X13.here hx rfl (pc0 := 37) (pc' := 49) rfl (hb hby d2_37) rfl (XT.ii_le_t (by decide)) (by decide) (by decide) k) ?_
    show own_Fin p.tables e below _ (T13.setTop (mkF m 49 #[.val (.int i1), .val (.int (2 : Int32)), .val (.ref a9)] []))
    obtain ⟨T14, h14, X14, e14, E14, A14, D14, -, st14⟩ := newO X13 hx hZ hown (hw _ (List.mem_of_getElem? (i := 5) rfl)) (hw _ (List.mem_of_getElem? (i := 6) rfl)) (hw _ (List.mem_of_getElem? (i := 7) rfl)) e13 (g := (mkF m 49 #[.val (.int i1), .val (.int (2 : Int32)), .val (.ref a9)] [])) rfl (hb hby d2_49) (by decide) (by decide)
    obtain ⟨a14, g14⟩ : ∃ z, z = h13.size := ⟨_, rfl⟩
    rw [← g14] at A14 D14 st14
    have q14 : h0.size ≤ a14 := Nat.le_trans K13.1 (Nat.le_of_eq g14.symm)
    have z14 : n0 ≤ a14 := Nat.le_trans Z0 q14
    have ne_a9_a14 : a9 ≠ a14 := fun q => absurd (q ▸ Va9_13.lt) (by rw [g14]; exact Nat.lt_irrefl _)
    have LO_14 := LO_13.ext E14
    have O_14 := O_13.ext E14
    have Va9_14 := Va9_13.ext E14
    have K14 := K13.ext E14
    have Fa14_value : Fld Z h14 a14 "java/lang/String" "value" "[B" .null := D14 (Or.inr (hw _ (List.mem_of_getElem? (i := 20) rfl))) (ty := (.array .byte)) (by decide)
    have Fa14_coder : Fld Z h14 a14 "java/lang/String" "coder" "B" (.int (0 : Int32)) := D14 (Or.inr (hw _ (List.mem_of_getElem? (i := 21) rfl))) (ty := .byte) (by decide)
    refine own_go st14 ?_
    show own_Fin p.tables e below _ (T14.setTop (mkF m 52 #[.val (.int i1), .val (.int (2 : Int32)), .val (.ref a9)] [(.ref a14)]))
    refine own_go (fun _ k => XS.dup X14.here hx rfl (hb hby d2_52) rfl rfl k) ?_
    show own_Fin p.tables e below _ (T14.setTop (mkF m 53 #[.val (.int i1), .val (.int (2 : Int32)), .val (.ref a9)] [(.ref a14), (.ref a14)]))
    refine own_go (fun _ k => XS.aloadN X14.here hx rfl (hb hby d2_53) rfl rfl k) ?_
    show own_Fin p.tables e below _ (T14.setTop (mkF m 54 #[.val (.int i1), .val (.int (2 : Int32)), .val (.ref a9)] [(.ref a9), (.ref a14), (.ref a14)]))
    have hp15 : ∀ c ∈ ([(nar .char ((f1 i1 (0 : Int32)).toUInt32.toUInt16.toUInt32.toInt32)), (nar .char ((f1 i1 (1 : Int32)).toUInt32.toUInt16.toUInt32.toInt32))] : List Int32), ¬ c < 0 ∧ ¬ (255 : Int32) < c := fun c hc => by simp only [List.mem_cons, List.not_mem_nil, or_false] at hc; rcases hc with rfl | rfl <;> exact own_chr i1 _
    obtain ⟨_, T15, L15, X15, ⟨rfl, M15, KK15, -, Gc15, t15, kb15, zt15, qt15, nt15, Gv15, Ga15⟩, st15⟩ := own_callCB X14 hx hZ hown rfl (hw _ (List.mem_of_getElem? (i := 8) rfl)) (hw _ (List.mem_of_getElem? (i := 9) rfl)) (hw _ (List.mem_of_getElem? (i := 10) rfl)) (by decide) (W := 1) (StrChars.Road.backV (W := 1) hZ hws (kI := 4) (hw _ (List.mem_of_getElem? (i := 6) rfl)) (cs := ([(nar .char ((f1 i1 (0 : Int32)).toUInt32.toUInt16.toUInt32.toInt32)), (nar .char ((f1 i1 (1 : Int32)).toUInt32.toUInt16.toUInt32.toInt32))] : List Int32)) (bs := ([(nar .char ((f1 i1 (0 : Int32)).toUInt32.toUInt16.toUInt32.toInt32)), (nar .char ((f1 i1 (1 : Int32)).toUInt32.toUInt16.toUInt32.toInt32))] : List Int32).map (fun c => c.toInt8.toInt32)) (n := 2) z14 (Nat.le_trans Z0 K14.1) A14 Fa14_value Fa14_coder Va9_14 (SC.ext O_14.2) hz rfl rfl (by decide) (by decide) hp15 rfl (by decide) (by decide)) e14 (g := (mkF m 54 #[.val (.int i1), .val (.int (2 : Int32)), .val (.ref a9)] [(.ref a9), (.ref a14), (.ref a14)])) rfl (by rw [hml]; rfl) (argsL := [.ref a9]) (rest := [(.ref a14)]) rfl (lenOf pd1 rfl) rfl (by show 2 * 0 + _ ≤ _; exact Nat.le_of_eq rfl) (hb hby d2_54) (by decide) (by decide)
    have N15 := Fr.app N13 M15
    have LO_15 := LO_14.keepB KK15 q14
    have O_15 := O_14.keep KK15 (allS z14 all0)
    have Va9_15 := Va9_14.keep KK15 (ninS ne_a9_a14 nin0)
    have Ea14_15 := A14.keep KK15
    have K15 := K14.trans KK15 (allS (Or.inr q14) all0)
    have S15 : own_Str Z T15.heap a14 ([(nar .char ((f1 i1 (0 : Int32)).toUInt32.toUInt16.toUInt32.toInt32)), (nar .char ((f1 i1 (1 : Int32)).toUInt32.toUInt16.toUInt32.toInt32))] : List Int32) T15.heap.size := ⟨Ea14_15, ⟨hp15, Nat.le_of_ble_eq_true rfl⟩, Ea14_15.lt, t15, kb15, Ga15.lt, Gc15, Gv15, Ga15⟩
    refine own_go st15 ?_
    show own_Fin p.tables e below _ (T15.setTop (mkF m 57 #[.val (.int i1), .val (.int (2 : Int32)), .val (.ref a9)] [(.ref a14)]))
    refine own_retAW X15 hx hlk hS0 (Nat.zero_le _) hret rfl rfl (hb hby d2_57) ?_ (by decide) (by decide)
    have hcs : own_cs i1 = ([(nar .char ((f1 i1 (0 : Int32)).toUInt32.toUInt16.toUInt32.toInt32)), (nar .char ((f1 i1 (1 : Int32)).toUInt32.toUInt16.toUInt32.toInt32))] : List Int32) := by unfold own_cs; rw [if_neg (by rw [q]; decide), if_neg (by rw [q]; decide), if_pos q] <;> rfl
    exact ⟨a14, rfl, N15, K15, q14, hcs ▸ S15, (own_LO.warm (LO_15.mono K15.1) X15.warmed)⟩
  · rw [q]
    show own_Fin p.tables e below _ (s₁.setTop (mkF m 4 #[.val (.int i1), .val (.int (3 : Int32)), .unset] []))
    refine own_go (fun _ k => XS.iloadN X0.here hx rfl (hb hby d2_4) rfl k) ?_
    show own_Fin p.tables e below _ (s₁.setTop (mkF m 5 #[.val (.int i1), .val (.int (3 : Int32)), .unset] [(.int (3 : Int32))]))
    obtain ⟨T16, h16, k16, X16, e16, E16, A16, st16⟩ := newP X0 hx hZ (hw _ (List.mem_of_getElem? (i := 4) rfl)) e0 (g := (mkF m 5 #[.val (.int i1), .val (.int (3 : Int32)), .unset] [(.int (3 : Int32))])) rfl (hb hby d2_5) rfl (by decide) (cap := 3) (by decide) (by decide) (by decide) (by decide)
    obtain ⟨a16, g16⟩ : ∃ z, z = h0.size := ⟨_, rfl⟩
    rw [← g16] at A16 st16
    have q16 : h0.size ≤ a16 := Nat.le_trans K0.1 (Nat.le_of_eq g16.symm)
    have z16 : n0 ≤ a16 := Nat.le_trans Z0 q16
    have LO_16 := LO0.ext E16
    have O_16 := O0.ext E16
    have K16 := K0.ext E16
    have Va16 : Arv Z h16 a16 k16 .char (3 : Int32) [(.int (0 : Int32)), (.int (0 : Int32)), (.int (0 : Int32))] (.int (0 : Int32)) := (Arv.new A16 (by decide)).pad (pad_rep [] (.int (0 : Int32)) 3)
    refine own_go st16 ?_
    show own_Fin p.tables e below _ (T16.setTop (mkF m 7 #[.val (.int i1), .val (.int (3 : Int32)), .unset] [(.ref a16)]))
    refine own_go (fun _ k => XS.astoreN X16.here hx rfl (hb hby d2_7) rfl rfl (l' := #[.val (.int i1), .val (.int (3 : Int32)), .val (.ref a16)]) rfl k) ?_
    show own_Fin p.tables e below _ (T16.setTop (mkF m 8 #[.val (.int i1), .val (.int (3 : Int32)), .val (.ref a16)] []))
    refine own_go (fun _ k => XS.iloadN X16.here hx rfl (hb hby d2_8) rfl k) ?_
    show own_Fin p.tables e below _ (T16.setTop (mkF m 9 #[.val (.int i1), .val (.int (3 : Int32)), .val (.ref a16)] [(.int (3 : Int32))]))
    refine own_go (fun _ k => XS.ifNo X16.here hx rfl (hb hby d2_9) rfl (XT.i0_le_f (by decide)) k) ?_
    show own_Fin p.tables e below _ (T16.setTop (mkF m 12 #[.val (.int i1), .val (.int (3 : Int32)), .val (.ref a16)] []))
    refine own_go (fun _ k => XS.aloadN X16.here hx rfl (hb hby d2_12) rfl rfl k) ?_
    show own_Fin p.tables e below _ (T16.setTop (mkF m 13 #[.val (.int i1), .val (.int (3 : Int32)), .val (.ref a16)] [(.ref a16)]))
    refine own_go (fun _ k => XT.iconstV X16.here hx rfl (0 : Int32) (hb hby d2_13) (by decide) k) ?_
    show own_Fin p.tables e below _ (T16.setTop (mkF m 14 #[.val (.int i1), .val (.int (3 : Int32)), .val (.ref a16)] [(.int (0 : Int32)), (.ref a16)]))
    refine own_go (fun _ k => XS.iloadN X16.here hx rfl (hb hby d2_14) rfl k) ?_
    show own_Fin p.tables e below _ (T16.setTop (mkF m 15 #[.val (.int i1), .val (.int (3 : Int32)), .val (.ref a16)] [(.int i1), (.int (0 : Int32)), (.ref a16)]))
    refine own_go (fun _ k => XT.iconstV X16.here hx rfl (0 : Int32) (hb hby d2_15) (by decide) k) ?_
    show own_Fin p.tables e below _ (T16.setTop (mkF m 16 #[.val (.int i1), .val (.int (3 : Int32)), .val (.ref a16)] [(.int (0 : Int32)), (.int i1), (.int (0 : Int32)), (.ref a16)]))
    obtain ⟨_, T17, L17, X17, ⟨rfl, M17, e17⟩, st17⟩ := own_callS X16 hx hZ hown (hw _ (List.mem_of_getElem? (i := 26) rfl)) (hw _ (List.mem_of_getElem? (i := 27) rfl)) (hw _ (List.mem_of_getElem? (i := 2) rfl)) (hw _ (List.mem_of_getElem? (i := 28) rfl)) (by decide) (W := 2) (rm1 l Z a0 hw [] i1 (0 : Int32) h16 n0 (Nat.le_trans Z0 K16.1) ) (by decide) (by decide) e16 (g := (mkF m 16 #[.val (.int i1), .val (.int (3 : Int32)), .val (.ref a16)] [(.int (0 : Int32)), (.int i1), (.int (0 : Int32)), (.ref a16)])) rfl (by rw [hml]; rfl) (argsL := [(.int i1), (.int (0 : Int32))]) (rest := [(.int (0 : Int32)), (.ref a16)]) rfl (lenOf pd3 rfl) rfl (by show 2 * 0 + _ ≤ _; exact Nat.le_of_eq rfl) (hb hby d2_16) (by decide) (by decide)
    have N17 := Fr.app N0 M17
    refine own_go st17 ?_
    show own_Fin p.tables e below _ (T17.setTop (mkF m 19 #[.val (.int i1), .val (.int (3 : Int32)), .val (.ref a16)] [(.int (f1 i1 (0 : Int32))), (.int (0 : Int32)), (.ref a16)]))
    refine own_go (fun _ k => XT.i2c X17.here hx rfl (hb hby d2_19) rfl k) ?_
    show own_Fin p.tables e below _ (T17.setTop (mkF m 20 #[.val (.int i1), .val (.int (3 : Int32)), .val (.ref a16)] [(.int ((f1 i1 (0 : Int32)).toUInt32.toUInt16.toUInt32.toInt32)), (.int (0 : Int32)), (.ref a16)]))
    obtain ⟨c18, Ar18, q18, S18, M18, H18, U18⟩ := id Va16
    obtain ⟨T18, h18, X18, e18, W18, st18⟩ := stC X17 hx hZ e17 Ar18 (j := (0 : Int32)) (inb_of S18 ⟨(by decide), (by decide)⟩) (g := (mkF m 20 #[.val (.int i1), .val (.int (3 : Int32)), .val (.ref a16)] [(.int ((f1 i1 (0 : Int32)).toUInt32.toUInt16.toUInt32.toInt32)), (.int (0 : Int32)), (.ref a16)])) rfl rfl (hb hby d2_20)
    have K18 := K16.wr W18 (Or.inr q16)
    have N18 := Fr.snoc X18 N17 z16
    have LO_18 := LO_16.keepB (Keep.of_wr W18) q16
    have O_18 := O_16.wr W18 z16
    have Va16_18 : Arv Z h18 a16 k16 .char (3 : Int32) [(.int (nar .char ((f1 i1 (0 : Int32)).toUInt32.toUInt16.toUInt32.toInt32))), (.int (0 : Int32)), (.int (0 : Int32))] (.int (0 : Int32)) := Arv.set Ar18 q18 S18 M18 H18 U18 (fits_nar_char _) W18 0 rfl (Nat.le_of_ble_eq_true rfl)
    refine own_go st18 ?_
    show own_Fin p.tables e below _ (T18.setTop (mkF m 21 #[.val (.int i1), .val (.int (3 : Int32)), .val (.ref a16)] []))
    refine own_go (fun _ k => XS.iloadN X18.here hx rfl (hb hby d2_21) rfl k) ?_
    show own_Fin p.tables e below _ (T18.setTop (mkF m 22 #[.val (.int i1), .val (.int (3 : Int32)), .val (.ref a16)] [(.int (3 : Int32))]))
    refine own_go (fun _ k => XT.iconstV X18.here hx rfl (1 : Int32) (hb hby d2_22) (by decide) k) ?_
    show own_Fin p.tables e below _ (T18.setTop (mkF m 23 #[.val (.int i1), .val (.int (3 : Int32)), .val (.ref a16)] [(.int (1 : Int32)), (.int (3 : Int32))]))
    refine own_go (fun _ k => XS.icmpNo X18.here hx rfl (hb hby d2_23) rfl (XT.ii_le_f (by decide)) k) ?_
    show own_Fin p.tables e below _ (T18.setTop (mkF m 26 #[.val (.int i1), .val (.int (3 : Int32)), .val (.ref a16)] []))
    refine own_go (fun _ k => XS.aloadN X18.here hx rfl (hb hby d2_26) rfl rfl k) ?_
    show own_Fin p.tables e below _ (T18.setTop (mkF m 27 #[.val (.int i1), .val (.int (3 : Int32)), .val (.ref a16)] [(.ref a16)]))
    refine own_go (fun _ k => XT.iconstV X18.here hx rfl (1 : Int32) (hb hby d2_27) (by decide) k) ?_
    show own_Fin p.tables e below _ (T18.setTop (mkF m 28 #[.val (.int i1), .val (.int (3 : Int32)), .val (.ref a16)] [(.int (1 : Int32)), (.ref a16)]))
    refine own_go (fun _ k => XS.iloadN X18.here hx rfl (hb hby d2_28) rfl k) ?_
    show own_Fin p.tables e below _ (T18.setTop (mkF m 29 #[.val (.int i1), .val (.int (3 : Int32)), .val (.ref a16)] [(.int i1), (.int (1 : Int32)), (.ref a16)]))
    refine own_go (fun _ k => XT.iconstV X18.here hx rfl (1 : Int32) (hb hby d2_29) (by decide) k) ?_
    show own_Fin p.tables e below _ (T18.setTop (mkF m 30 #[.val (.int i1), .val (.int (3 : Int32)), .val (.ref a16)] [(.int (1 : Int32)), (.int i1), (.int (1 : Int32)), (.ref a16)]))
    obtain ⟨_, T19, L19, X19, ⟨rfl, M19, e19⟩, st19⟩ := own_callS X18 hx hZ hown (hw _ (List.mem_of_getElem? (i := 26) rfl)) (hw _ (List.mem_of_getElem? (i := 27) rfl)) (hw _ (List.mem_of_getElem? (i := 2) rfl)) (hw _ (List.mem_of_getElem? (i := 28) rfl)) (by decide) (W := 2) (rm1 l Z a0 hw [] i1 (1 : Int32) h18 n0 (Nat.le_trans Z0 K18.1) ) (by decide) (by decide) e18 (g := (mkF m 30 #[.val (.int i1), .val (.int (3 : Int32)), .val (.ref a16)] [(.int (1 : Int32)), (.int i1), (.int (1 : Int32)), (.ref a16)])) rfl (by rw [hml]; rfl) (argsL := [(.int i1), (.int (1 : Int32))]) (rest := [(.int (1 : Int32)), (.ref a16)]) rfl (lenOf pd3 rfl) rfl (by show 2 * 0 + _ ≤ _; exact Nat.le_of_eq rfl) (hb hby d2_30) (by decide) (by decide)
    have N19 := Fr.app N18 M19
    refine own_go st19 ?_
    show own_Fin p.tables e below _ (T19.setTop (mkF m 33 #[.val (.int i1), .val (.int (3 : Int32)), .val (.ref a16)] [(.int (f1 i1 (1 : Int32))), (.int (1 : Int32)), (.ref a16)]))
    refine own_go (fun _ k => XT.i2c X19.here hx rfl (hb hby d2_33) rfl k) ?_
    show own_Fin p.tables e below _ (T19.setTop (mkF m 34 #[.val (.int i1), .val (.int (3 : Int32)), .val (.ref a16)] [(.int ((f1 i1 (1 : Int32)).toUInt32.toUInt16.toUInt32.toInt32)), (.int (1 : Int32)), (.ref a16)]))
    obtain ⟨c20, Ar20, q20, S20, M20, H20, U20⟩ := id Va16_18
    obtain ⟨T20, h20, X20, e20, W20, st20⟩ := stC X19 hx hZ e19 Ar20 (j := (1 : Int32)) (inb_of S20 ⟨(by decide), (by decide)⟩) (g := (mkF m 34 #[.val (.int i1), .val (.int (3 : Int32)), .val (.ref a16)] [(.int ((f1 i1 (1 : Int32)).toUInt32.toUInt16.toUInt32.toInt32)), (.int (1 : Int32)), (.ref a16)])) rfl rfl (hb hby d2_34)
    have K20 := K18.wr W20 (Or.inr q16)
    have N20 := Fr.snoc X20 N19 z16
    have LO_20 := LO_18.keepB (Keep.of_wr W20) q16
    have O_20 := O_18.wr W20 z16
    have Va16_20 : Arv Z h20 a16 k16 .char (3 : Int32) [(.int (nar .char ((f1 i1 (0 : Int32)).toUInt32.toUInt16.toUInt32.toInt32))), (.int (nar .char ((f1 i1 (1 : Int32)).toUInt32.toUInt16.toUInt32.toInt32))), (.int (0 : Int32))] (.int (0 : Int32)) := Arv.set Ar20 q20 S20 M20 H20 U20 (fits_nar_char _) W20 1 rfl (Nat.le_of_ble_eq_true rfl)
    refine own_go st20 ?_
    show own_Fin p.tables e below _ (T20.setTop (mkF m 35 #[.val (.int i1), .val (.int (3 : Int32)), .val (.ref a16)] []))
    refine own_go (fun _ k => XS.iloadN X20.here hx rfl (hb hby d2_35) rfl k) ?_
    show own_Fin p.tables e below _ (T20.setTop (mkF m 36 #[.val (.int i1), .val (.int (3 : Int32)), .val (.ref a16)] [(.int (3 : Int32))]))
    refine own_go (fun _ k => XT.iconstV X20.here hx rfl (2 : Int32) (hb hby d2_36) (by decide) k) ?_
    show own_Fin p.tables e below _ (T20.setTop (mkF m 37 #[.val (.int i1), .val (.int (3 : Int32)), .val (.ref a16)] [(.int (2 : Int32)), (.int (3 : Int32))]))
    refine own_go (fun _ k => XS.icmpNo X20.here hx rfl (hb hby d2_37) rfl (XT.ii_le_f (by decide)) k) ?_
    show own_Fin p.tables e below _ (T20.setTop (mkF m 40 #[.val (.int i1), .val (.int (3 : Int32)), .val (.ref a16)] []))
    refine own_go (fun _ k => XS.aloadN X20.here hx rfl (hb hby d2_40) rfl rfl k) ?_
    show own_Fin p.tables e below _ (T20.setTop (mkF m 41 #[.val (.int i1), .val (.int (3 : Int32)), .val (.ref a16)] [(.ref a16)]))
    refine own_go (fun _ k => XT.iconstV X20.here hx rfl (2 : Int32) (hb hby d2_41) (by decide) k) ?_
    show own_Fin p.tables e below _ (T20.setTop (mkF m 42 #[.val (.int i1), .val (.int (3 : Int32)), .val (.ref a16)] [(.int (2 : Int32)), (.ref a16)]))
    refine own_go (fun _ k => XS.iloadN X20.here hx rfl (hb hby d2_42) rfl k) ?_
    show own_Fin p.tables e below _ (T20.setTop (mkF m 43 #[.val (.int i1), .val (.int (3 : Int32)), .val (.ref a16)] [(.int i1), (.int (2 : Int32)), (.ref a16)]))
    refine own_go (fun _ k => XT.iconstV X20.here hx rfl (2 : Int32) (hb hby d2_43) (by decide) k) ?_
    show own_Fin p.tables e below _ (T20.setTop (mkF m 44 #[.val (.int i1), .val (.int (3 : Int32)), .val (.ref a16)] [(.int (2 : Int32)), (.int i1), (.int (2 : Int32)), (.ref a16)]))
    obtain ⟨_, T21, L21, X21, ⟨rfl, M21, e21⟩, st21⟩ := own_callS X20 hx hZ hown (hw _ (List.mem_of_getElem? (i := 26) rfl)) (hw _ (List.mem_of_getElem? (i := 27) rfl)) (hw _ (List.mem_of_getElem? (i := 2) rfl)) (hw _ (List.mem_of_getElem? (i := 28) rfl)) (by decide) (W := 2) (rm1 l Z a0 hw [] i1 (2 : Int32) h20 n0 (Nat.le_trans Z0 K20.1) ) (by decide) (by decide) e20 (g := (mkF m 44 #[.val (.int i1), .val (.int (3 : Int32)), .val (.ref a16)] [(.int (2 : Int32)), (.int i1), (.int (2 : Int32)), (.ref a16)])) rfl (by rw [hml]; rfl) (argsL := [(.int i1), (.int (2 : Int32))]) (rest := [(.int (2 : Int32)), (.ref a16)]) rfl (lenOf pd3 rfl) rfl (by show 2 * 0 + _ ≤ _; exact Nat.le_of_eq rfl) (hb hby d2_44) (by decide) (by decide)
    have N21 := Fr.app N20 M21
    refine own_go st21 ?_
    show own_Fin p.tables e below _ (T21.setTop (mkF m 47 #[.val (.int i1), .val (.int (3 : Int32)), .val (.ref a16)] [(.int (f1 i1 (2 : Int32))), (.int (2 : Int32)), (.ref a16)]))
    refine own_go (fun _ k => XT.i2c X21.here hx rfl (hb hby d2_47) rfl k) ?_
    show own_Fin p.tables e below _ (T21.setTop (mkF m 48 #[.val (.int i1), .val (.int (3 : Int32)), .val (.ref a16)] [(.int ((f1 i1 (2 : Int32)).toUInt32.toUInt16.toUInt32.toInt32)), (.int (2 : Int32)), (.ref a16)]))
    obtain ⟨c22, Ar22, q22, S22, M22, H22, U22⟩ := id Va16_20
    obtain ⟨T22, h22, X22, e22, W22, st22⟩ := stC X21 hx hZ e21 Ar22 (j := (2 : Int32)) (inb_of S22 ⟨(by decide), (by decide)⟩) (g := (mkF m 48 #[.val (.int i1), .val (.int (3 : Int32)), .val (.ref a16)] [(.int ((f1 i1 (2 : Int32)).toUInt32.toUInt16.toUInt32.toInt32)), (.int (2 : Int32)), (.ref a16)])) rfl rfl (hb hby d2_48)
    have K22 := K20.wr W22 (Or.inr q16)
    have N22 := Fr.snoc X22 N21 z16
    have LO_22 := LO_20.keepB (Keep.of_wr W22) q16
    have O_22 := O_20.wr W22 z16
    have Va16_22 : Arv Z h22 a16 k16 .char (3 : Int32) [(.int (nar .char ((f1 i1 (0 : Int32)).toUInt32.toUInt16.toUInt32.toInt32))), (.int (nar .char ((f1 i1 (1 : Int32)).toUInt32.toUInt16.toUInt32.toInt32))), (.int (nar .char ((f1 i1 (2 : Int32)).toUInt32.toUInt16.toUInt32.toInt32)))] (.int (0 : Int32)) := Arv.set Ar22 q22 S22 M22 H22 U22 (fits_nar_char _) W22 2 rfl (Nat.le_of_ble_eq_true rfl)
    refine own_go st22 ?_
    show own_Fin p.tables e below _ (T22.setTop (mkF m 49 #[.val (.int i1), .val (.int (3 : Int32)), .val (.ref a16)] []))
    obtain ⟨T23, h23, X23, e23, E23, A23, D23, -, st23⟩ := newO X22 hx hZ hown (hw _ (List.mem_of_getElem? (i := 5) rfl)) (hw _ (List.mem_of_getElem? (i := 6) rfl)) (hw _ (List.mem_of_getElem? (i := 7) rfl)) e22 (g := (mkF m 49 #[.val (.int i1), .val (.int (3 : Int32)), .val (.ref a16)] [])) rfl (hb hby d2_49) (by decide) (by decide)
    obtain ⟨a23, g23⟩ : ∃ z, z = h22.size := ⟨_, rfl⟩
    rw [← g23] at A23 D23 st23
    have q23 : h0.size ≤ a23 := Nat.le_trans K22.1 (Nat.le_of_eq g23.symm)
    have z23 : n0 ≤ a23 := Nat.le_trans Z0 q23
    have ne_a16_a23 : a16 ≠ a23 := fun q => absurd (q ▸ Va16_22.lt) (by rw [g23]; exact Nat.lt_irrefl _)
    have LO_23 := LO_22.ext E23
    have O_23 := O_22.ext E23
    have Va16_23 := Va16_22.ext E23
    have K23 := K22.ext E23
    have Fa23_value : Fld Z h23 a23 "java/lang/String" "value" "[B" .null := D23 (Or.inr (hw _ (List.mem_of_getElem? (i := 20) rfl))) (ty := (.array .byte)) (by decide)
    have Fa23_coder : Fld Z h23 a23 "java/lang/String" "coder" "B" (.int (0 : Int32)) := D23 (Or.inr (hw _ (List.mem_of_getElem? (i := 21) rfl))) (ty := .byte) (by decide)
    refine own_go st23 ?_
    show own_Fin p.tables e below _ (T23.setTop (mkF m 52 #[.val (.int i1), .val (.int (3 : Int32)), .val (.ref a16)] [(.ref a23)]))
    refine own_go (fun _ k => XS.dup X23.here hx rfl (hb hby d2_52) rfl rfl k) ?_
    show own_Fin p.tables e below _ (T23.setTop (mkF m 53 #[.val (.int i1), .val (.int (3 : Int32)), .val (.ref a16)] [(.ref a23), (.ref a23)]))
    refine own_go (fun _ k => XS.aloadN X23.here hx rfl (hb hby d2_53) rfl rfl k) ?_
    show own_Fin p.tables e below _ (T23.setTop (mkF m 54 #[.val (.int i1), .val (.int (3 : Int32)), .val (.ref a16)] [(.ref a16), (.ref a23), (.ref a23)]))
    have hp24 : ∀ c ∈ ([(nar .char ((f1 i1 (0 : Int32)).toUInt32.toUInt16.toUInt32.toInt32)), (nar .char ((f1 i1 (1 : Int32)).toUInt32.toUInt16.toUInt32.toInt32)), (nar .char ((f1 i1 (2 : Int32)).toUInt32.toUInt16.toUInt32.toInt32))] : List Int32), ¬ c < 0 ∧ ¬ (255 : Int32) < c := fun c hc => by simp only [List.mem_cons, List.not_mem_nil, or_false] at hc; rcases hc with rfl | rfl | rfl <;> exact own_chr i1 _
    obtain ⟨_, T24, L24, X24, ⟨rfl, M24, KK24, -, Gc24, t24, kb24, zt24, qt24, nt24, Gv24, Ga24⟩, st24⟩ := own_callCB X23 hx hZ hown rfl (hw _ (List.mem_of_getElem? (i := 8) rfl)) (hw _ (List.mem_of_getElem? (i := 9) rfl)) (hw _ (List.mem_of_getElem? (i := 10) rfl)) (by decide) (W := 1) (StrChars.Road.backV (W := 1) hZ hws (kI := 4) (hw _ (List.mem_of_getElem? (i := 6) rfl)) (cs := ([(nar .char ((f1 i1 (0 : Int32)).toUInt32.toUInt16.toUInt32.toInt32)), (nar .char ((f1 i1 (1 : Int32)).toUInt32.toUInt16.toUInt32.toInt32)), (nar .char ((f1 i1 (2 : Int32)).toUInt32.toUInt16.toUInt32.toInt32))] : List Int32)) (bs := ([(nar .char ((f1 i1 (0 : Int32)).toUInt32.toUInt16.toUInt32.toInt32)), (nar .char ((f1 i1 (1 : Int32)).toUInt32.toUInt16.toUInt32.toInt32)), (nar .char ((f1 i1 (2 : Int32)).toUInt32.toUInt16.toUInt32.toInt32))] : List Int32).map (fun c => c.toInt8.toInt32)) (n := 3) z23 (Nat.le_trans Z0 K23.1) A23 Fa23_value Fa23_coder Va16_23 (SC.ext O_23.2) hz rfl rfl (by decide) (by decide) hp24 rfl (by decide) (by decide)) e23 (g := (mkF m 54 #[.val (.int i1), .val (.int (3 : Int32)), .val (.ref a16)] [(.ref a16), (.ref a23), (.ref a23)])) rfl (by rw [hml]; rfl) (argsL := [.ref a16]) (rest := [(.ref a23)]) rfl (lenOf pd1 rfl) rfl (by show 2 * 0 + _ ≤ _; exact Nat.le_of_eq rfl) (hb hby d2_54) (by decide) (by decide)
    have N24 := Fr.app N22 M24
    have LO_24 := LO_23.keepB KK24 q23
    have O_24 := O_23.keep KK24 (allS z23 all0)
    have Va16_24 := Va16_23.keep KK24 (ninS ne_a16_a23 nin0)
    have Ea23_24 := A23.keep KK24
    have K24 := K23.trans KK24 (allS (Or.inr q23) all0)
    have S24 : own_Str Z T24.heap a23 ([(nar .char ((f1 i1 (0 : Int32)).toUInt32.toUInt16.toUInt32.toInt32)), (nar .char ((f1 i1 (1 : Int32)).toUInt32.toUInt16.toUInt32.toInt32)), (nar .char ((f1 i1 (2 : Int32)).toUInt32.toUInt16.toUInt32.toInt32))] : List Int32) T24.heap.size := ⟨Ea23_24, ⟨hp24, Nat.le_of_ble_eq_true rfl⟩, Ea23_24.lt, t24, kb24, Ga24.lt, Gc24, Gv24, Ga24⟩
    refine own_go st24 ?_
    show own_Fin p.tables e below _ (T24.setTop (mkF m 57 #[.val (.int i1), .val (.int (3 : Int32)), .val (.ref a16)] [(.ref a23)]))
    refine own_retAW X24 hx hlk hS0 (Nat.zero_le _) hret rfl rfl (hb hby d2_57) ?_ (by decide) (by decide)
    have hcs : own_cs i1 = ([(nar .char ((f1 i1 (0 : Int32)).toUInt32.toUInt16.toUInt32.toInt32)), (nar .char ((f1 i1 (1 : Int32)).toUInt32.toUInt16.toUInt32.toInt32)), (nar .char ((f1 i1 (2 : Int32)).toUInt32.toUInt16.toUInt32.toInt32))] : List Int32) := by unfold own_cs; rw [if_neg (by rw [q]; decide), if_neg (by rw [q]; decide), if_neg (by rw [q]; decide)] <;> rfl
    exact ⟨a23, rfl, N24, K24, q23, hcs ▸ S24, (own_LO.warm (LO_24.mono K24.1) X24.warmed)⟩
theorem d3_0 : decode method_5_code 0 = .ok (.iload_n 0, 1) := by decide +kernel
theorem d3_1 : decode method_5_code 1 = .ok (.iconst 3, 1) := by decide +kernel
theorem d3_2 : decode method_5_code 2 = .ok (.iand, 1) := by decide +kernel
theorem d3_3 : decode method_5_code 3 = .ok (.istore_n 2, 1) := by decide +kernel
theorem d3_4 : decode method_5_code 4 = .ok (.iload_n 1, 1) := by decide +kernel
theorem d3_5 : decode method_5_code 5 = .ok (.iconst 3, 1) := by decide +kernel
theorem d3_6 : decode method_5_code 6 = .ok (.iand, 1) := by decide +kernel
theorem d3_7 : decode method_5_code 7 = .ok (.istore_n 3, 1) := by decide +kernel
theorem d3_8 : decode method_5_code 8 = .ok (.iload_n 2, 1) := by decide +kernel
theorem d3_9 : decode method_5_code 9 = .ok (.iload_n 3, 1) := by decide +kernel
theorem d3_10 : decode method_5_code 10 = .ok (.if_icmp .eq 5, 3) := by decide +kernel
theorem d3_13 : decode method_5_code 13 = .ok (.iconst 0, 1) := by decide +kernel
theorem d3_14 : decode method_5_code 14 = .ok (.ireturn, 1) := by decide +kernel
theorem d3_15 : decode method_5_code 15 = .ok (.iload_n 2, 1) := by decide +kernel
theorem d3_16 : decode method_5_code 16 = .ok (.ifCond .le 18, 3) := by decide +kernel
theorem d3_19 : decode method_5_code 19 = .ok (.iload_n 0, 1) := by decide +kernel
theorem d3_20 : decode method_5_code 20 = .ok (.iconst 0, 1) := by decide +kernel
theorem d3_21 : decode method_5_code 21 = .ok (.invokestatic 39, 3) := by decide +kernel
theorem d3_24 : decode method_5_code 24 = .ok (.iload_n 1, 1) := by decide +kernel
theorem d3_25 : decode method_5_code 25 = .ok (.iconst 0, 1) := by decide +kernel
theorem d3_26 : decode method_5_code 26 = .ok (.invokestatic 39, 3) := by decide +kernel
theorem d3_29 : decode method_5_code 29 = .ok (.if_icmp .eq 5, 3) := by decide +kernel
theorem d3_32 : decode method_5_code 32 = .ok (.iconst 0, 1) := by decide +kernel
theorem d3_33 : decode method_5_code 33 = .ok (.ireturn, 1) := by decide +kernel
theorem d3_34 : decode method_5_code 34 = .ok (.iload_n 2, 1) := by decide +kernel
theorem d3_35 : decode method_5_code 35 = .ok (.iconst 1, 1) := by decide +kernel
theorem d3_36 : decode method_5_code 36 = .ok (.if_icmp .le 18, 3) := by decide +kernel
theorem d3_39 : decode method_5_code 39 = .ok (.iload_n 0, 1) := by decide +kernel
theorem d3_40 : decode method_5_code 40 = .ok (.iconst 1, 1) := by decide +kernel
theorem d3_41 : decode method_5_code 41 = .ok (.invokestatic 39, 3) := by decide +kernel
theorem d3_44 : decode method_5_code 44 = .ok (.iload_n 1, 1) := by decide +kernel
theorem d3_45 : decode method_5_code 45 = .ok (.iconst 1, 1) := by decide +kernel
theorem d3_46 : decode method_5_code 46 = .ok (.invokestatic 39, 3) := by decide +kernel
theorem d3_49 : decode method_5_code 49 = .ok (.if_icmp .eq 5, 3) := by decide +kernel
theorem d3_52 : decode method_5_code 52 = .ok (.iconst 0, 1) := by decide +kernel
theorem d3_53 : decode method_5_code 53 = .ok (.ireturn, 1) := by decide +kernel
theorem d3_54 : decode method_5_code 54 = .ok (.iload_n 2, 1) := by decide +kernel
theorem d3_55 : decode method_5_code 55 = .ok (.iconst 2, 1) := by decide +kernel
theorem d3_56 : decode method_5_code 56 = .ok (.if_icmp .le 18, 3) := by decide +kernel
theorem d3_59 : decode method_5_code 59 = .ok (.iload_n 0, 1) := by decide +kernel
theorem d3_60 : decode method_5_code 60 = .ok (.iconst 2, 1) := by decide +kernel
theorem d3_61 : decode method_5_code 61 = .ok (.invokestatic 39, 3) := by decide +kernel
theorem d3_64 : decode method_5_code 64 = .ok (.iload_n 1, 1) := by decide +kernel
theorem d3_65 : decode method_5_code 65 = .ok (.iconst 2, 1) := by decide +kernel
theorem d3_66 : decode method_5_code 66 = .ok (.invokestatic 39, 3) := by decide +kernel
theorem d3_69 : decode method_5_code 69 = .ok (.if_icmp .eq 5, 3) := by decide +kernel
theorem d3_72 : decode method_5_code 72 = .ok (.iconst 0, 1) := by decide +kernel
theorem d3_73 : decode method_5_code 73 = .ok (.ireturn, 1) := by decide +kernel
theorem d3_74 : decode method_5_code 74 = .ok (.iconst 1, 1) := by decide +kernel
theorem d3_75 : decode method_5_code 75 = .ok (.ireturn, 1) := by decide +kernel
theorem pd5 : parseMethodDescriptor "(II)Z" = some ⟨[.int, .int], some .boolean⟩ := by decide +kernel
theorem ef3 (m : MethodId) (i1 : Int32) (i2 : Int32) : entryFrame m #[(.int i1), (.int i2)] 4 = mkF m 0 #[.val (.int i1), .val (.int i2), .unset, .unset] [] := by first | (simp [entryFrame, mkF, argsToLocals, Value.category]; done) | rfl
def f3 (i1 : Int32) (i2 : Int32) : Int32 := (if (i1 &&& (3 : Int32)) = (i2 &&& (3 : Int32)) then (if (0 : Int32) < (i1 &&& (3 : Int32)) then (if (f1 i1 (0 : Int32)) = (f1 i2 (0 : Int32)) then (if (1 : Int32) < (i1 &&& (3 : Int32)) then (if (f1 i1 (1 : Int32)) = (f1 i2 (1 : Int32)) then (if (2 : Int32) < (i1 &&& (3 : Int32)) then (if (f1 i1 (2 : Int32)) = (f1 i2 (2 : Int32)) then (1 : Int32) else (0 : Int32)) else (1 : Int32)) else (0 : Int32)) else (if (2 : Int32) < (i1 &&& (3 : Int32)) then (if (f1 i1 (2 : Int32)) = (f1 i2 (2 : Int32)) then (1 : Int32) else (0 : Int32)) else (1 : Int32))) else (0 : Int32)) else (if (1 : Int32) < (i1 &&& (3 : Int32)) then (if (f1 i1 (1 : Int32)) = (f1 i2 (1 : Int32)) then (if (2 : Int32) < (i1 &&& (3 : Int32)) then (if (f1 i1 (2 : Int32)) = (f1 i2 (2 : Int32)) then (1 : Int32) else (0 : Int32)) else (1 : Int32)) else (0 : Int32)) else (if (2 : Int32) < (i1 &&& (3 : Int32)) then (if (f1 i1 (2 : Int32)) = (f1 i2 (2 : Int32)) then (1 : Int32) else (0 : Int32)) else (1 : Int32)))) else (0 : Int32))
set_option maxRecDepth 65536 in
set_option maxHeartbeats 40000000 in
theorem rm3 (l : Launch) (Z : State) (a0 : Array Value) (hw : ∀ d ∈ tables_1, d.before a0 Z = true) (ws : List Jvm.Cond) (i1 : Int32) (i2 : Int32) (h0 : Heap) (n0 : Nat) (Z0 : n0 ≤ h0.size)  :
    own_Met l (⟨"com/example/tremorgrid/tremorgrid/app/OptionIsGivenByPinLaw", "same", "(II)Z"⟩ : MethodName) method_5_code 4 (some .boolean) ({ frames := 1, cells := 0, slots := 0, locals := 14 } : Room) ws #[(.int i1), (.int i2)] Z h0 0 0 (own_QP (some (.int (f3 i1 i2))) h0 n0) := by
  refine own_met (plainFor_of_name pn1) ?_
  intro p e s m below meth c s₁ hx hby hml hown hnm hret hlk hZ e0 X0
  have hml : c.maxLocals = 4 := hml
  have N0 := Fr.nil n0
  have K0 := Keep.refl h0 []
  refine own_go (fun _ k => castTop (ef3 m i1 i2) k) ?_
  show own_Fin p.tables e below _ (s₁.setTop (mkF m 0 #[.val (.int i1), .val (.int i2), .unset, .unset] []))
  refine own_go (fun _ k => XS.iloadN X0.here hx rfl (hb hby d3_0) rfl k) ?_
  show own_Fin p.tables e below _ (s₁.setTop (mkF m 1 #[.val (.int i1), .val (.int i2), .unset, .unset] [(.int i1)]))
  refine own_go (fun _ k => XT.iconstV X0.here hx rfl (3 : Int32) (hb hby d3_1) (by decide) k) ?_
  show own_Fin p.tables e below _ (s₁.setTop (mkF m 2 #[.val (.int i1), .val (.int i2), .unset, .unset] [(.int (3 : Int32)), (.int i1)]))
  refine own_go (fun _ k => XS.iand X0.here hx rfl (hb hby d3_2) rfl k) ?_
  show own_Fin p.tables e below _ (s₁.setTop (mkF m 3 #[.val (.int i1), .val (.int i2), .unset, .unset] [(.int (i1 &&& (3 : Int32)))]))
  refine own_go (fun _ k => XS.istoreN X0.here hx rfl (hb hby d3_3) rfl (l' := #[.val (.int i1), .val (.int i2), .val (.int (i1 &&& (3 : Int32))), .unset]) rfl k) ?_
  show own_Fin p.tables e below _ (s₁.setTop (mkF m 4 #[.val (.int i1), .val (.int i2), .val (.int (i1 &&& (3 : Int32))), .unset] []))
  refine own_go (fun _ k => XS.iloadN X0.here hx rfl (hb hby d3_4) rfl k) ?_
  show own_Fin p.tables e below _ (s₁.setTop (mkF m 5 #[.val (.int i1), .val (.int i2), .val (.int (i1 &&& (3 : Int32))), .unset] [(.int i2)]))
  refine own_go (fun _ k => XT.iconstV X0.here hx rfl (3 : Int32) (hb hby d3_5) (by decide) k) ?_
  show own_Fin p.tables e below _ (s₁.setTop (mkF m 6 #[.val (.int i1), .val (.int i2), .val (.int (i1 &&& (3 : Int32))), .unset] [(.int (3 : Int32)), (.int i2)]))
  refine own_go (fun _ k => XS.iand X0.here hx rfl (hb hby d3_6) rfl k) ?_
  show own_Fin p.tables e below _ (s₁.setTop (mkF m 7 #[.val (.int i1), .val (.int i2), .val (.int (i1 &&& (3 : Int32))), .unset] [(.int (i2 &&& (3 : Int32)))]))
  refine own_go (fun _ k => XS.istoreN X0.here hx rfl (hb hby d3_7) rfl (l' := #[.val (.int i1), .val (.int i2), .val (.int (i1 &&& (3 : Int32))), .val (.int (i2 &&& (3 : Int32)))]) rfl k) ?_
  show own_Fin p.tables e below _ (s₁.setTop (mkF m 8 #[.val (.int i1), .val (.int i2), .val (.int (i1 &&& (3 : Int32))), .val (.int (i2 &&& (3 : Int32)))] []))
  refine own_go (fun _ k => XS.iloadN X0.here hx rfl (hb hby d3_8) rfl k) ?_
  show own_Fin p.tables e below _ (s₁.setTop (mkF m 9 #[.val (.int i1), .val (.int i2), .val (.int (i1 &&& (3 : Int32))), .val (.int (i2 &&& (3 : Int32)))] [(.int (i1 &&& (3 : Int32)))]))
  refine own_go (fun _ k => XS.iloadN X0.here hx rfl (hb hby d3_9) rfl k) ?_
  show own_Fin p.tables e below _ (s₁.setTop (mkF m 10 #[.val (.int i1), .val (.int i2), .val (.int (i1 &&& (3 : Int32))), .val (.int (i2 &&& (3 : Int32)))] [(.int (i2 &&& (3 : Int32))), (.int (i1 &&& (3 : Int32)))]))
  by_cases hc1 : (i1 &&& (3 : Int32)) = (i2 &&& (3 : Int32))
  · refine own_go (fun _ k => XS.icmpYes X0.here hx rfl (pc0 := 10) (pc' := 15) rfl (hb hby d3_10) rfl (XT.ii_eq_t hc1) (by decide) (by decide) k) ?_
    show own_Fin p.tables e below _ (s₁.setTop (mkF m 15 #[.val (.int i1), .val (.int i2), .val (.int (i1 &&& (3 : Int32))), .val (.int (i2 &&& (3 : Int32)))] []))
    refine own_go (fun _ k => XS.iloadN X0.here hx rfl (hb hby d3_15) rfl k) ?_
    show own_Fin p.tables e below _ (s₁.setTop (mkF m 16 #[.val (.int i1), .val (.int i2), .val (.int (i1 &&& (3 : Int32))), .val (.int (i2 &&& (3 : Int32)))] [(.int (i1 &&& (3 : Int32)))]))
    by_cases hc2 : (0 : Int32) < (i1 &&& (3 : Int32))
    · refine own_go (fun _ k => XS.ifNo X0.here hx rfl (hb hby d3_16) rfl (XT.i0_le_f hc2) k) ?_
      show own_Fin p.tables e below _ (s₁.setTop (mkF m 19 #[.val (.int i1), .val (.int i2), .val (.int (i1 &&& (3 : Int32))), .val (.int (i2 &&& (3 : Int32)))] []))
      refine own_go (fun _ k => XS.iloadN X0.here hx rfl (hb hby d3_19) rfl k) ?_
      show own_Fin p.tables e below _ (s₁.setTop (mkF m 20 #[.val (.int i1), .val (.int i2), .val (.int (i1 &&& (3 : Int32))), .val (.int (i2 &&& (3 : Int32)))] [(.int i1)]))
      refine own_go (fun _ k => XT.iconstV X0.here hx rfl (0 : Int32) (hb hby d3_20) (by decide) k) ?_
      show own_Fin p.tables e below _ (s₁.setTop (mkF m 21 #[.val (.int i1), .val (.int i2), .val (.int (i1 &&& (3 : Int32))), .val (.int (i2 &&& (3 : Int32)))] [(.int (0 : Int32)), (.int i1)]))
      obtain ⟨_, T3, L3, X3, ⟨rfl, M3, e3⟩, st3⟩ := own_callS X0 hx hZ hown (hw _ (List.mem_of_getElem? (i := 26) rfl)) (hw _ (List.mem_of_getElem? (i := 27) rfl)) (hw _ (List.mem_of_getElem? (i := 2) rfl)) (hw _ (List.mem_of_getElem? (i := 28) rfl)) (by decide) (W := 0) (rm1 l Z a0 hw [] i1 (0 : Int32) h0 n0 (Nat.le_trans Z0 K0.1) ) (by decide) (by decide) e0 (g := (mkF m 21 #[.val (.int i1), .val (.int i2), .val (.int (i1 &&& (3 : Int32))), .val (.int (i2 &&& (3 : Int32)))] [(.int (0 : Int32)), (.int i1)])) rfl (by rw [hml]; rfl) (argsL := [(.int i1), (.int (0 : Int32))]) (rest := []) rfl (lenOf pd3 rfl) rfl (by show 2 * 0 + _ ≤ _; exact Nat.le_of_eq rfl) (hb hby d3_21) (by decide) (by decide)
      have N3 := Fr.app N0 M3
      refine own_go st3 ?_
      show own_Fin p.tables e below _ (T3.setTop (mkF m 24 #[.val (.int i1), .val (.int i2), .val (.int (i1 &&& (3 : Int32))), .val (.int (i2 &&& (3 : Int32)))] [(.int (f1 i1 (0 : Int32)))]))
      refine own_go (fun _ k => XS.iloadN X3.here hx rfl (hb hby d3_24) rfl k) ?_
      show own_Fin p.tables e below _ (T3.setTop (mkF m 25 #[.val (.int i1), .val (.int i2), .val (.int (i1 &&& (3 : Int32))), .val (.int (i2 &&& (3 : Int32)))] [(.int i2), (.int (f1 i1 (0 : Int32)))]))
      refine own_go (fun _ k => XT.iconstV X3.here hx rfl (0 : Int32) (hb hby d3_25) (by decide) k) ?_
      show own_Fin p.tables e below _ (T3.setTop (mkF m 26 #[.val (.int i1), .val (.int i2), .val (.int (i1 &&& (3 : Int32))), .val (.int (i2 &&& (3 : Int32)))] [(.int (0 : Int32)), (.int i2), (.int (f1 i1 (0 : Int32)))]))
      obtain ⟨_, T4, L4, X4, ⟨rfl, M4, e4⟩, st4⟩ := own_callS X3 hx hZ hown (hw _ (List.mem_of_getElem? (i := 26) rfl)) (hw _ (List.mem_of_getElem? (i := 27) rfl)) (hw _ (List.mem_of_getElem? (i := 2) rfl)) (hw _ (List.mem_of_getElem? (i := 28) rfl)) (by decide) (W := 1) (rm1 l Z a0 hw [] i2 (0 : Int32) h0 n0 (Nat.le_trans Z0 K0.1) ) (by decide) (by decide) e3 (g := (mkF m 26 #[.val (.int i1), .val (.int i2), .val (.int (i1 &&& (3 : Int32))), .val (.int (i2 &&& (3 : Int32)))] [(.int (0 : Int32)), (.int i2), (.int (f1 i1 (0 : Int32)))])) rfl (by rw [hml]; rfl) (argsL := [(.int i2), (.int (0 : Int32))]) (rest := [(.int (f1 i1 (0 : Int32)))]) rfl (lenOf pd3 rfl) rfl (by show 2 * 0 + _ ≤ _; exact Nat.le_of_eq rfl) (hb hby d3_26) (by decide) (by decide)
      have N4 := Fr.app N3 M4
      refine own_go st4 ?_
      show own_Fin p.tables e below _ (T4.setTop (mkF m 29 #[.val (.int i1), .val (.int i2), .val (.int (i1 &&& (3 : Int32))), .val (.int (i2 &&& (3 : Int32)))] [(.int (f1 i2 (0 : Int32))), (.int (f1 i1 (0 : Int32)))]))
      by_cases hc5 : (f1 i1 (0 : Int32)) = (f1 i2 (0 : Int32))
      · refine own_go (fun _ k => XS.icmpYes X4.here hx rfl (pc0 := 29) (pc' := 34) rfl (hb hby d3_29) rfl (XT.ii_eq_t hc5) (by decide) (by decide) k) ?_
        show own_Fin p.tables e below _ (T4.setTop (mkF m 34 #[.val (.int i1), .val (.int i2), .val (.int (i1 &&& (3 : Int32))), .val (.int (i2 &&& (3 : Int32)))] []))
        refine own_go (fun _ k => XS.iloadN X4.here hx rfl (hb hby d3_34) rfl k) ?_
        show own_Fin p.tables e below _ (T4.setTop (mkF m 35 #[.val (.int i1), .val (.int i2), .val (.int (i1 &&& (3 : Int32))), .val (.int (i2 &&& (3 : Int32)))] [(.int (i1 &&& (3 : Int32)))]))
        refine own_go (fun _ k => XT.iconstV X4.here hx rfl (1 : Int32) (hb hby d3_35) (by decide) k) ?_
        show own_Fin p.tables e below _ (T4.setTop (mkF m 36 #[.val (.int i1), .val (.int i2), .val (.int (i1 &&& (3 : Int32))), .val (.int (i2 &&& (3 : Int32)))] [(.int (1 : Int32)), (.int (i1 &&& (3 : Int32)))]))
        by_cases hc6 : (1 : Int32) < (i1 &&& (3 : Int32))
        · refine own_go (fun _ k => XS.icmpNo X4.here hx rfl (hb hby d3_36) rfl (XT.ii_le_f hc6) k) ?_
          show own_Fin p.tables e below _ (T4.setTop (mkF m 39 #[.val (.int i1), .val (.int i2), .val (.int (i1 &&& (3 : Int32))), .val (.int (i2 &&& (3 : Int32)))] []))
          refine own_go (fun _ k => XS.iloadN X4.here hx rfl (hb hby d3_39) rfl k) ?_
          show own_Fin p.tables e below _ (T4.setTop (mkF m 40 #[.val (.int i1), .val (.int i2), .val (.int (i1 &&& (3 : Int32))), .val (.int (i2 &&& (3 : Int32)))] [(.int i1)]))
          refine own_go (fun _ k => XT.iconstV X4.here hx rfl (1 : Int32) (hb hby d3_40) (by decide) k) ?_
          show own_Fin p.tables e below _ (T4.setTop (mkF m 41 #[.val (.int i1), .val (.int i2), .val (.int (i1 &&& (3 : Int32))), .val (.int (i2 &&& (3 : Int32)))] [(.int (1 : Int32)), (.int i1)]))
          obtain ⟨_, T7, L7, X7, ⟨rfl, M7, e7⟩, st7⟩ := own_callS X4 hx hZ hown (hw _ (List.mem_of_getElem? (i := 26) rfl)) (hw _ (List.mem_of_getElem? (i := 27) rfl)) (hw _ (List.mem_of_getElem? (i := 2) rfl)) (hw _ (List.mem_of_getElem? (i := 28) rfl)) (by decide) (W := 0) (rm1 l Z a0 hw [] i1 (1 : Int32) h0 n0 (Nat.le_trans Z0 K0.1) ) (by decide) (by decide) e4 (g := (mkF m 41 #[.val (.int i1), .val (.int i2), .val (.int (i1 &&& (3 : Int32))), .val (.int (i2 &&& (3 : Int32)))] [(.int (1 : Int32)), (.int i1)])) rfl (by rw [hml]; rfl) (argsL := [(.int i1), (.int (1 : Int32))]) (rest := []) rfl (lenOf pd3 rfl) rfl (by show 2 * 0 + _ ≤ _; exact Nat.le_of_eq rfl) (hb hby d3_41) (by decide) (by decide)
          have N7 := Fr.app N4 M7
          refine own_go st7 ?_
          show own_Fin p.tables e below _ (T7.setTop (mkF m 44 #[.val (.int i1), .val (.int i2), .val (.int (i1 &&& (3 : Int32))), .val (.int (i2 &&& (3 : Int32)))] [(.int (f1 i1 (1 : Int32)))]))
          refine own_go (fun _ k => XS.iloadN X7.here hx rfl (hb hby d3_44) rfl k) ?_
          show own_Fin p.tables e below _ (T7.setTop (mkF m 45 #[.val (.int i1), .val (.int i2), .val (.int (i1 &&& (3 : Int32))), .val (.int (i2 &&& (3 : Int32)))] [(.int i2), (.int (f1 i1 (1 : Int32)))]))
          refine own_go (fun _ k => XT.iconstV X7.here hx rfl (1 : Int32) (hb hby d3_45) (by decide) k) ?_
          show own_Fin p.tables e below _ (T7.setTop (mkF m 46 #[.val (.int i1), .val (.int i2), .val (.int (i1 &&& (3 : Int32))), .val (.int (i2 &&& (3 : Int32)))] [(.int (1 : Int32)), (.int i2), (.int (f1 i1 (1 : Int32)))]))
          obtain ⟨_, T8, L8, X8, ⟨rfl, M8, e8⟩, st8⟩ := own_callS X7 hx hZ hown (hw _ (List.mem_of_getElem? (i := 26) rfl)) (hw _ (List.mem_of_getElem? (i := 27) rfl)) (hw _ (List.mem_of_getElem? (i := 2) rfl)) (hw _ (List.mem_of_getElem? (i := 28) rfl)) (by decide) (W := 1) (rm1 l Z a0 hw [] i2 (1 : Int32) h0 n0 (Nat.le_trans Z0 K0.1) ) (by decide) (by decide) e7 (g := (mkF m 46 #[.val (.int i1), .val (.int i2), .val (.int (i1 &&& (3 : Int32))), .val (.int (i2 &&& (3 : Int32)))] [(.int (1 : Int32)), (.int i2), (.int (f1 i1 (1 : Int32)))])) rfl (by rw [hml]; rfl) (argsL := [(.int i2), (.int (1 : Int32))]) (rest := [(.int (f1 i1 (1 : Int32)))]) rfl (lenOf pd3 rfl) rfl (by show 2 * 0 + _ ≤ _; exact Nat.le_of_eq rfl) (hb hby d3_46) (by decide) (by decide)
          have N8 := Fr.app N7 M8
          refine own_go st8 ?_
          show own_Fin p.tables e below _ (T8.setTop (mkF m 49 #[.val (.int i1), .val (.int i2), .val (.int (i1 &&& (3 : Int32))), .val (.int (i2 &&& (3 : Int32)))] [(.int (f1 i2 (1 : Int32))), (.int (f1 i1 (1 : Int32)))]))
          by_cases hc9 : (f1 i1 (1 : Int32)) = (f1 i2 (1 : Int32))
          · refine own_go (fun _ k => XS.icmpYes X8.here hx rfl (pc0 := 49) (pc' := 54) rfl (hb hby d3_49) rfl (XT.ii_eq_t hc9) (by decide) (by decide) k) ?_
            show own_Fin p.tables e below _ (T8.setTop (mkF m 54 #[.val (.int i1), .val (.int i2), .val (.int (i1 &&& (3 : Int32))), .val (.int (i2 &&& (3 : Int32)))] []))
            refine own_go (fun _ k => XS.iloadN X8.here hx rfl (hb hby d3_54) rfl k) ?_
            show own_Fin p.tables e below _ (T8.setTop (mkF m 55 #[.val (.int i1), .val (.int i2), .val (.int (i1 &&& (3 : Int32))), .val (.int (i2 &&& (3 : Int32)))] [(.int (i1 &&& (3 : Int32)))]))
            refine own_go (fun _ k => XT.iconstV X8.here hx rfl (2 : Int32) (hb hby d3_55) (by decide) k) ?_
            show own_Fin p.tables e below _ (T8.setTop (mkF m 56 #[.val (.int i1), .val (.int i2), .val (.int (i1 &&& (3 : Int32))), .val (.int (i2 &&& (3 : Int32)))] [(.int (2 : Int32)), (.int (i1 &&& (3 : Int32)))]))
            by_cases hc10 : (2 : Int32) < (i1 &&& (3 : Int32))
            · refine own_go (fun _ k => XS.icmpNo X8.here hx rfl (hb hby d3_56) rfl (XT.ii_le_f hc10) k) ?_
              show own_Fin p.tables e below _ (T8.setTop (mkF m 59 #[.val (.int i1), .val (.int i2), .val (.int (i1 &&& (3 : Int32))), .val (.int (i2 &&& (3 : Int32)))] []))
              refine own_go (fun _ k => XS.iloadN X8.here hx rfl (hb hby d3_59) rfl k) ?_
              show own_Fin p.tables e below _ (T8.setTop (mkF m 60 #[.val (.int i1), .val (.int i2), .val (.int (i1 &&& (3 : Int32))), .val (.int (i2 &&& (3 : Int32)))] [(.int i1)]))
              refine own_go (fun _ k => XT.iconstV X8.here hx rfl (2 : Int32) (hb hby d3_60) (by decide) k) ?_
              show own_Fin p.tables e below _ (T8.setTop (mkF m 61 #[.val (.int i1), .val (.int i2), .val (.int (i1 &&& (3 : Int32))), .val (.int (i2 &&& (3 : Int32)))] [(.int (2 : Int32)), (.int i1)]))
              obtain ⟨_, T11, L11, X11, ⟨rfl, M11, e11⟩, st11⟩ := own_callS X8 hx hZ hown (hw _ (List.mem_of_getElem? (i := 26) rfl)) (hw _ (List.mem_of_getElem? (i := 27) rfl)) (hw _ (List.mem_of_getElem? (i := 2) rfl)) (hw _ (List.mem_of_getElem? (i := 28) rfl)) (by decide) (W := 0) (rm1 l Z a0 hw [] i1 (2 : Int32) h0 n0 (Nat.le_trans Z0 K0.1) ) (by decide) (by decide) e8 (g := (mkF m 61 #[.val (.int i1), .val (.int i2), .val (.int (i1 &&& (3 : Int32))), .val (.int (i2 &&& (3 : Int32)))] [(.int (2 : Int32)), (.int i1)])) rfl (by rw [hml]; rfl) (argsL := [(.int i1), (.int (2 : Int32))]) (rest := []) rfl (lenOf pd3 rfl) rfl (by show 2 * 0 + _ ≤ _; exact Nat.le_of_eq rfl) (hb hby d3_61) (by decide) (by decide)
              have N11 := Fr.app N8 M11
              refine own_go st11 ?_
              show own_Fin p.tables e below _ (T11.setTop (mkF m 64 #[.val (.int i1), .val (.int i2), .val (.int (i1 &&& (3 : Int32))), .val (.int (i2 &&& (3 : Int32)))] [(.int (f1 i1 (2 : Int32)))]))
              refine own_go (fun _ k => XS.iloadN X11.here hx rfl (hb hby d3_64) rfl k) ?_
              show own_Fin p.tables e below _ (T11.setTop (mkF m 65 #[.val (.int i1), .val (.int i2), .val (.int (i1 &&& (3 : Int32))), .val (.int (i2 &&& (3 : Int32)))] [(.int i2), (.int (f1 i1 (2 : Int32)))]))
              refine own_go (fun _ k => XT.iconstV X11.here hx rfl (2 : Int32) (hb hby d3_65) (by decide) k) ?_
              show own_Fin p.tables e below _ (T11.setTop (mkF m 66 #[.val (.int i1), .val (.int i2), .val (.int (i1 &&& (3 : Int32))), .val (.int (i2 &&& (3 : Int32)))] [(.int (2 : Int32)), (.int i2), (.int (f1 i1 (2 : Int32)))]))
              obtain ⟨_, T12, L12, X12, ⟨rfl, M12, e12⟩, st12⟩ := own_callS X11 hx hZ hown (hw _ (List.mem_of_getElem? (i := 26) rfl)) (hw _ (List.mem_of_getElem? (i := 27) rfl)) (hw _ (List.mem_of_getElem? (i := 2) rfl)) (hw _ (List.mem_of_getElem? (i := 28) rfl)) (by decide) (W := 1) (rm1 l Z a0 hw [] i2 (2 : Int32) h0 n0 (Nat.le_trans Z0 K0.1) ) (by decide) (by decide) e11 (g := (mkF m 66 #[.val (.int i1), .val (.int i2), .val (.int (i1 &&& (3 : Int32))), .val (.int (i2 &&& (3 : Int32)))] [(.int (2 : Int32)), (.int i2), (.int (f1 i1 (2 : Int32)))])) rfl (by rw [hml]; rfl) (argsL := [(.int i2), (.int (2 : Int32))]) (rest := [(.int (f1 i1 (2 : Int32)))]) rfl (lenOf pd3 rfl) rfl (by show 2 * 0 + _ ≤ _; exact Nat.le_of_eq rfl) (hb hby d3_66) (by decide) (by decide)
              have N12 := Fr.app N11 M12
              refine own_go st12 ?_
              show own_Fin p.tables e below _ (T12.setTop (mkF m 69 #[.val (.int i1), .val (.int i2), .val (.int (i1 &&& (3 : Int32))), .val (.int (i2 &&& (3 : Int32)))] [(.int (f1 i2 (2 : Int32))), (.int (f1 i1 (2 : Int32)))]))
              by_cases hc13 : (f1 i1 (2 : Int32)) = (f1 i2 (2 : Int32))
              · refine own_go (fun _ k => XS.icmpYes X12.here hx rfl (pc0 := 69) (pc' := 74) rfl (hb hby d3_69) rfl (XT.ii_eq_t hc13) (by decide) (by decide) k) ?_
                show own_Fin p.tables e below _ (T12.setTop (mkF m 74 #[.val (.int i1), .val (.int i2), .val (.int (i1 &&& (3 : Int32))), .val (.int (i2 &&& (3 : Int32)))] []))
                refine own_go (fun _ k => XT.iconstV X12.here hx rfl (1 : Int32) (hb hby d3_74) (by decide) k) ?_
                show own_Fin p.tables e below _ (T12.setTop (mkF m 75 #[.val (.int i1), .val (.int i2), .val (.int (i1 &&& (3 : Int32))), .val (.int (i2 &&& (3 : Int32)))] [(.int (1 : Int32))]))
                refine own_retN X12 hx hlk (t := .boolean) hret (by simp) (hb hby d3_75) ?_ (by decide) (by decide)
                exact ⟨by rw [show f3 i1 i2 = (1 : Int32) from by simp only [f3, if_pos hc1, if_pos hc2, if_pos hc5, if_pos hc6, if_pos hc9, if_pos hc10, if_pos hc13]] <;> rfl, N12, e12⟩
              · refine own_go (fun _ k => XS.icmpNo X12.here hx rfl (hb hby d3_69) rfl (XT.ii_eq_f hc13) k) ?_
                show own_Fin p.tables e below _ (T12.setTop (mkF m 72 #[.val (.int i1), .val (.int i2), .val (.int (i1 &&& (3 : Int32))), .val (.int (i2 &&& (3 : Int32)))] []))
                refine own_go (fun _ k => XT.iconstV X12.here hx rfl (0 : Int32) (hb hby d3_72) (by decide) k) ?_
                show own_Fin p.tables e below _ (T12.setTop (mkF m 73 #[.val (.int i1), .val (.int i2), .val (.int (i1 &&& (3 : Int32))), .val (.int (i2 &&& (3 : Int32)))] [(.int (0 : Int32))]))
                refine own_retN X12 hx hlk (t := .boolean) hret (by simp) (hb hby d3_73) ?_ (by decide) (by decide)
                exact ⟨by rw [show f3 i1 i2 = (0 : Int32) from by simp only [f3, if_pos hc1, if_pos hc2, if_pos hc5, if_pos hc6, if_pos hc9, if_pos hc10, if_neg hc13]] <;> rfl, N12, e12⟩
            · refine own_go (fun _ k => XS.icmpYes X8.here hx rfl (pc0 := 56) (pc' := 74) rfl (hb hby d3_56) rfl (XT.ii_le_t hc10) (by decide) (by decide) k) ?_
              show own_Fin p.tables e below _ (T8.setTop (mkF m 74 #[.val (.int i1), .val (.int i2), .val (.int (i1 &&& (3 : Int32))), .val (.int (i2 &&& (3 : Int32)))] []))
              refine own_go (fun _ k => XT.iconstV X8.here hx rfl (1 : Int32) (hb hby d3_74) (by decide) k) ?_
              show own_Fin p.tables e below _ (T8.setTop (mkF m 75 #[.val (.int i1), .val (.int i2), .val (.int (i1 &&& (3 : Int32))), .val (.int (i2 &&& (3 : Int32)))] [(.int (1 : Int32))]))
              refine own_retN X8 hx hlk (t := .boolean) hret (by simp) (hb hby d3_75) ?_ (by decide) (by decide)
              exact ⟨by rw [show f3 i1 i2 = (1 : Int32) from by simp only [f3, if_pos hc1, if_pos hc2, if_pos hc5, if_pos hc6, if_pos hc9, if_neg hc10]] <;> rfl, N8, e8⟩
          · refine own_go (fun _ k => XS.icmpNo X8.here hx rfl (hb hby d3_49) rfl (XT.ii_eq_f hc9) k) ?_
            show own_Fin p.tables e below _ (T8.setTop (mkF m 52 #[.val (.int i1), .val (.int i2), .val (.int (i1 &&& (3 : Int32))), .val (.int (i2 &&& (3 : Int32)))] []))
            refine own_go (fun _ k => XT.iconstV X8.here hx rfl (0 : Int32) (hb hby d3_52) (by decide) k) ?_
            show own_Fin p.tables e below _ (T8.setTop (mkF m 53 #[.val (.int i1), .val (.int i2), .val (.int (i1 &&& (3 : Int32))), .val (.int (i2 &&& (3 : Int32)))] [(.int (0 : Int32))]))
            refine own_retN X8 hx hlk (t := .boolean) hret (by simp) (hb hby d3_53) ?_ (by decide) (by decide)
            exact ⟨by rw [show f3 i1 i2 = (0 : Int32) from by simp only [f3, if_pos hc1, if_pos hc2, if_pos hc5, if_pos hc6, if_neg hc9]] <;> rfl, N8, e8⟩
        · refine own_go (fun _ k => XS.icmpYes X4.here hx rfl (pc0 := 36) (pc' := 54) rfl (hb hby d3_36) rfl (XT.ii_le_t hc6) (by decide) (by decide) k) ?_
          show own_Fin p.tables e below _ (T4.setTop (mkF m 54 #[.val (.int i1), .val (.int i2), .val (.int (i1 &&& (3 : Int32))), .val (.int (i2 &&& (3 : Int32)))] []))
          refine own_go (fun _ k => XS.iloadN X4.here hx rfl (hb hby d3_54) rfl k) ?_
          show own_Fin p.tables e below _ (T4.setTop (mkF m 55 #[.val (.int i1), .val (.int i2), .val (.int (i1 &&& (3 : Int32))), .val (.int (i2 &&& (3 : Int32)))] [(.int (i1 &&& (3 : Int32)))]))
          refine own_go (fun _ k => XT.iconstV X4.here hx rfl (2 : Int32) (hb hby d3_55) (by decide) k) ?_
          show own_Fin p.tables e below _ (T4.setTop (mkF m 56 #[.val (.int i1), .val (.int i2), .val (.int (i1 &&& (3 : Int32))), .val (.int (i2 &&& (3 : Int32)))] [(.int (2 : Int32)), (.int (i1 &&& (3 : Int32)))]))
          by_cases hc14 : (2 : Int32) < (i1 &&& (3 : Int32))
          · refine own_go (fun _ k => XS.icmpNo X4.here hx rfl (hb hby d3_56) rfl (XT.ii_le_f hc14) k) ?_
            show own_Fin p.tables e below _ (T4.setTop (mkF m 59 #[.val (.int i1), .val (.int i2), .val (.int (i1 &&& (3 : Int32))), .val (.int (i2 &&& (3 : Int32)))] []))
            refine own_go (fun _ k => XS.iloadN X4.here hx rfl (hb hby d3_59) rfl k) ?_
            show own_Fin p.tables e below _ (T4.setTop (mkF m 60 #[.val (.int i1), .val (.int i2), .val (.int (i1 &&& (3 : Int32))), .val (.int (i2 &&& (3 : Int32)))] [(.int i1)]))
            refine own_go (fun _ k => XT.iconstV X4.here hx rfl (2 : Int32) (hb hby d3_60) (by decide) k) ?_
            show own_Fin p.tables e below _ (T4.setTop (mkF m 61 #[.val (.int i1), .val (.int i2), .val (.int (i1 &&& (3 : Int32))), .val (.int (i2 &&& (3 : Int32)))] [(.int (2 : Int32)), (.int i1)]))
            obtain ⟨_, T15, L15, X15, ⟨rfl, M15, e15⟩, st15⟩ := own_callS X4 hx hZ hown (hw _ (List.mem_of_getElem? (i := 26) rfl)) (hw _ (List.mem_of_getElem? (i := 27) rfl)) (hw _ (List.mem_of_getElem? (i := 2) rfl)) (hw _ (List.mem_of_getElem? (i := 28) rfl)) (by decide) (W := 0) (rm1 l Z a0 hw [] i1 (2 : Int32) h0 n0 (Nat.le_trans Z0 K0.1) ) (by decide) (by decide) e4 (g := (mkF m 61 #[.val (.int i1), .val (.int i2), .val (.int (i1 &&& (3 : Int32))), .val (.int (i2 &&& (3 : Int32)))] [(.int (2 : Int32)), (.int i1)])) rfl (by rw [hml]; rfl) (argsL := [(.int i1), (.int (2 : Int32))]) (rest := []) rfl (lenOf pd3 rfl) rfl (by show 2 * 0 + _ ≤ _; exact Nat.le_of_eq rfl) (hb hby d3_61) (by decide) (by decide)
            have N15 := Fr.app N4 M15
            refine own_go st15 ?_
            show own_Fin p.tables e below _ (T15.setTop (mkF m 64 #[.val (.int i1), .val (.int i2), .val (.int (i1 &&& (3 : Int32))), .val (.int (i2 &&& (3 : Int32)))] [(.int (f1 i1 (2 : Int32)))]))
            refine own_go (fun _ k => XS.iloadN X15.here hx rfl (hb hby d3_64) rfl k) ?_
            show own_Fin p.tables e below _ (T15.setTop (mkF m 65 #[.val (.int i1), .val (.int i2), .val (.int (i1 &&& (3 : Int32))), .val (.int (i2 &&& (3 : Int32)))] [(.int i2), (.int (f1 i1 (2 : Int32)))]))
            refine own_go (fun _ k => XT.iconstV X15.here hx rfl (2 : Int32) (hb hby d3_65) (by decide) k) ?_
            show own_Fin p.tables e below _ (T15.setTop (mkF m 66 #[.val (.int i1), .val (.int i2), .val (.int (i1 &&& (3 : Int32))), .val (.int (i2 &&& (3 : Int32)))] [(.int (2 : Int32)), (.int i2), (.int (f1 i1 (2 : Int32)))]))
            obtain ⟨_, T16, L16, X16, ⟨rfl, M16, e16⟩, st16⟩ := own_callS X15 hx hZ hown (hw _ (List.mem_of_getElem? (i := 26) rfl)) (hw _ (List.mem_of_getElem? (i := 27) rfl)) (hw _ (List.mem_of_getElem? (i := 2) rfl)) (hw _ (List.mem_of_getElem? (i := 28) rfl)) (by decide) (W := 1) (rm1 l Z a0 hw [] i2 (2 : Int32) h0 n0 (Nat.le_trans Z0 K0.1) ) (by decide) (by decide) e15 (g := (mkF m 66 #[.val (.int i1), .val (.int i2), .val (.int (i1 &&& (3 : Int32))), .val (.int (i2 &&& (3 : Int32)))] [(.int (2 : Int32)), (.int i2), (.int (f1 i1 (2 : Int32)))])) rfl (by rw [hml]; rfl) (argsL := [(.int i2), (.int (2 : Int32))]) (rest := [(.int (f1 i1 (2 : Int32)))]) rfl (lenOf pd3 rfl) rfl (by show 2 * 0 + _ ≤ _; exact Nat.le_of_eq rfl) (hb hby d3_66) (by decide) (by decide)
            have N16 := Fr.app N15 M16
            refine own_go st16 ?_
            show own_Fin p.tables e below _ (T16.setTop (mkF m 69 #[.val (.int i1), .val (.int i2), .val (.int (i1 &&& (3 : Int32))), .val (.int (i2 &&& (3 : Int32)))] [(.int (f1 i2 (2 : Int32))), (.int (f1 i1 (2 : Int32)))]))
            by_cases hc17 : (f1 i1 (2 : Int32)) = (f1 i2 (2 : Int32))
            · refine own_go (fun _ k => XS.icmpYes X16.here hx rfl (pc0 := 69) (pc' := 74) rfl (hb hby d3_69) rfl (XT.ii_eq_t hc17) (by decide) (by decide) k) ?_
              show own_Fin p.tables e below _ (T16.setTop (mkF m 74 #[.val (.int i1), .val (.int i2), .val (.int (i1 &&& (3 : Int32))), .val (.int (i2 &&& (3 : Int32)))] []))
              refine own_go (fun _ k => XT.iconstV X16.here hx rfl (1 : Int32) (hb hby d3_74) (by decide) k) ?_
              show own_Fin p.tables e below _ (T16.setTop (mkF m 75 #[.val (.int i1), .val (.int i2), .val (.int (i1 &&& (3 : Int32))), .val (.int (i2 &&& (3 : Int32)))] [(.int (1 : Int32))]))
              refine own_retN X16 hx hlk (t := .boolean) hret (by simp) (hb hby d3_75) ?_ (by decide) (by decide)
              exact ⟨by rw [show f3 i1 i2 = (1 : Int32) from by simp only [f3, if_pos hc1, if_pos hc2, if_pos hc5, if_neg hc6, if_pos hc14, if_pos hc17]] <;> rfl, N16, e16⟩
            · refine own_go (fun _ k => XS.icmpNo X16.here hx rfl (hb hby d3_69) rfl (XT.ii_eq_f hc17) k) ?_
              show own_Fin p.tables e below _ (T16.setTop (mkF m 72 #[.val (.int i1), .val (.int i2), .val (.int (i1 &&& (3 : Int32))), .val (.int (i2 &&& (3 : Int32)))] []))
              refine own_go (fun _ k => XT.iconstV X16.here hx rfl (0 : Int32) (hb hby d3_72) (by decide) k) ?_
              show own_Fin p.tables e below _ (T16.setTop (mkF m 73 #[.val (.int i1), .val (.int i2), .val (.int (i1 &&& (3 : Int32))), .val (.int (i2 &&& (3 : Int32)))] [(.int (0 : Int32))]))
              refine own_retN X16 hx hlk (t := .boolean) hret (by simp) (hb hby d3_73) ?_ (by decide) (by decide)
              exact ⟨by rw [show f3 i1 i2 = (0 : Int32) from by simp only [f3, if_pos hc1, if_pos hc2, if_pos hc5, if_neg hc6, if_pos hc14, if_neg hc17]] <;> rfl, N16, e16⟩
          · refine own_go (fun _ k => XS.icmpYes X4.here hx rfl (pc0 := 56) (pc' := 74) rfl (hb hby d3_56) rfl (XT.ii_le_t hc14) (by decide) (by decide) k) ?_
            show own_Fin p.tables e below _ (T4.setTop (mkF m 74 #[.val (.int i1), .val (.int i2), .val (.int (i1 &&& (3 : Int32))), .val (.int (i2 &&& (3 : Int32)))] []))
            refine own_go (fun _ k => XT.iconstV X4.here hx rfl (1 : Int32) (hb hby d3_74) (by decide) k) ?_
            show own_Fin p.tables e below _ (T4.setTop (mkF m 75 #[.val (.int i1), .val (.int i2), .val (.int (i1 &&& (3 : Int32))), .val (.int (i2 &&& (3 : Int32)))] [(.int (1 : Int32))]))
            refine own_retN X4 hx hlk (t := .boolean) hret (by simp) (hb hby d3_75) ?_ (by decide) (by decide)
            exact ⟨by rw [show f3 i1 i2 = (1 : Int32) from by simp only [f3, if_pos hc1, if_pos hc2, if_pos hc5, if_neg hc6, if_neg hc14]] <;> rfl, N4, e4⟩
      · refine own_go (fun _ k => XS.icmpNo X4.here hx rfl (hb hby d3_29) rfl (XT.ii_eq_f hc5) k) ?_
        show own_Fin p.tables e below _ (T4.setTop (mkF m 32 #[.val (.int i1), .val (.int i2), .val (.int (i1 &&& (3 : Int32))), .val (.int (i2 &&& (3 : Int32)))] []))
        refine own_go (fun _ k => XT.iconstV X4.here hx rfl (0 : Int32) (hb hby d3_32) (by decide) k) ?_
        show own_Fin p.tables e below _ (T4.setTop (mkF m 33 #[.val (.int i1), .val (.int i2), .val (.int (i1 &&& (3 : Int32))), .val (.int (i2 &&& (3 : Int32)))] [(.int (0 : Int32))]))
        refine own_retN X4 hx hlk (t := .boolean) hret (by simp) (hb hby d3_33) ?_ (by decide) (by decide)
        exact ⟨by rw [show f3 i1 i2 = (0 : Int32) from by simp only [f3, if_pos hc1, if_pos hc2, if_neg hc5]] <;> rfl, N4, e4⟩
    · refine own_go (fun _ k => XS.ifYes X0.here hx rfl (pc0 := 16) (pc' := 34) rfl (hb hby d3_16) rfl (XT.i0_le_t hc2) (by decide) (by decide) k) ?_
      show own_Fin p.tables e below _ (s₁.setTop (mkF m 34 #[.val (.int i1), .val (.int i2), .val (.int (i1 &&& (3 : Int32))), .val (.int (i2 &&& (3 : Int32)))] []))
      refine own_go (fun _ k => XS.iloadN X0.here hx rfl (hb hby d3_34) rfl k) ?_
      show own_Fin p.tables e below _ (s₁.setTop (mkF m 35 #[.val (.int i1), .val (.int i2), .val (.int (i1 &&& (3 : Int32))), .val (.int (i2 &&& (3 : Int32)))] [(.int (i1 &&& (3 : Int32)))]))
      refine own_go (fun _ k => XT.iconstV X0.here hx rfl (1 : Int32) (hb hby d3_35) (by decide) k) ?_
      show own_Fin p.tables e below _ (s₁.setTop (mkF m 36 #[.val (.int i1), .val (.int i2), .val (.int (i1 &&& (3 : Int32))), .val (.int (i2 &&& (3 : Int32)))] [(.int (1 : Int32)), (.int (i1 &&& (3 : Int32)))]))
      by_cases hc18 : (1 : Int32) < (i1 &&& (3 : Int32))
      · refine own_go (fun _ k => XS.icmpNo X0.here hx rfl (hb hby d3_36) rfl (XT.ii_le_f hc18) k) ?_
        show own_Fin p.tables e below _ (s₁.setTop (mkF m 39 #[.val (.int i1), .val (.int i2), .val (.int (i1 &&& (3 : Int32))), .val (.int (i2 &&& (3 : Int32)))] []))
        refine own_go (fun _ k => XS.iloadN X0.here hx rfl (hb hby d3_39) rfl k) ?_
        show own_Fin p.tables e below _ (s₁.setTop (mkF m 40 #[.val (.int i1), .val (.int i2), .val (.int (i1 &&& (3 : Int32))), .val (.int (i2 &&& (3 : Int32)))] [(.int i1)]))
        refine own_go (fun _ k => XT.iconstV X0.here hx rfl (1 : Int32) (hb hby d3_40) (by decide) k) ?_
        show own_Fin p.tables e below _ (s₁.setTop (mkF m 41 #[.val (.int i1), .val (.int i2), .val (.int (i1 &&& (3 : Int32))), .val (.int (i2 &&& (3 : Int32)))] [(.int (1 : Int32)), (.int i1)]))
        obtain ⟨_, T19, L19, X19, ⟨rfl, M19, e19⟩, st19⟩ := own_callS X0 hx hZ hown (hw _ (List.mem_of_getElem? (i := 26) rfl)) (hw _ (List.mem_of_getElem? (i := 27) rfl)) (hw _ (List.mem_of_getElem? (i := 2) rfl)) (hw _ (List.mem_of_getElem? (i := 28) rfl)) (by decide) (W := 0) (rm1 l Z a0 hw [] i1 (1 : Int32) h0 n0 (Nat.le_trans Z0 K0.1) ) (by decide) (by decide) e0 (g := (mkF m 41 #[.val (.int i1), .val (.int i2), .val (.int (i1 &&& (3 : Int32))), .val (.int (i2 &&& (3 : Int32)))] [(.int (1 : Int32)), (.int i1)])) rfl (by rw [hml]; rfl) (argsL := [(.int i1), (.int (1 : Int32))]) (rest := []) rfl (lenOf pd3 rfl) rfl (by show 2 * 0 + _ ≤ _; exact Nat.le_of_eq rfl) (hb hby d3_41) (by decide) (by decide)
        have N19 := Fr.app N0 M19
        refine own_go st19 ?_
        show own_Fin p.tables e below _ (T19.setTop (mkF m 44 #[.val (.int i1), .val (.int i2), .val (.int (i1 &&& (3 : Int32))), .val (.int (i2 &&& (3 : Int32)))] [(.int (f1 i1 (1 : Int32)))]))
        refine own_go (fun _ k => XS.iloadN X19.here hx rfl (hb hby d3_44) rfl k) ?_
        show own_Fin p.tables e below _ (T19.setTop (mkF m 45 #[.val (.int i1), .val (.int i2), .val (.int (i1 &&& (3 : Int32))), .val (.int (i2 &&& (3 : Int32)))] [(.int i2), (.int (f1 i1 (1 : Int32)))]))
        refine own_go (fun _ k => XT.iconstV X19.here hx rfl (1 : Int32) (hb hby d3_45) (by decide) k) ?_
        show own_Fin p.tables e below _ (T19.setTop (mkF m 46 #[.val (.int i1), .val (.int i2), .val (.int (i1 &&& (3 : Int32))), .val (.int (i2 &&& (3 : Int32)))] [(.int (1 : Int32)), (.int i2), (.int (f1 i1 (1 : Int32)))]))
        obtain ⟨_, T20, L20, X20, ⟨rfl, M20, e20⟩, st20⟩ := own_callS X19 hx hZ hown (hw _ (List.mem_of_getElem? (i := 26) rfl)) (hw _ (List.mem_of_getElem? (i := 27) rfl)) (hw _ (List.mem_of_getElem? (i := 2) rfl)) (hw _ (List.mem_of_getElem? (i := 28) rfl)) (by decide) (W := 1) (rm1 l Z a0 hw [] i2 (1 : Int32) h0 n0 (Nat.le_trans Z0 K0.1) ) (by decide) (by decide) e19 (g := (mkF m 46 #[.val (.int i1), .val (.int i2), .val (.int (i1 &&& (3 : Int32))), .val (.int (i2 &&& (3 : Int32)))] [(.int (1 : Int32)), (.int i2), (.int (f1 i1 (1 : Int32)))])) rfl (by rw [hml]; rfl) (argsL := [(.int i2), (.int (1 : Int32))]) (rest := [(.int (f1 i1 (1 : Int32)))]) rfl (lenOf pd3 rfl) rfl (by show 2 * 0 + _ ≤ _; exact Nat.le_of_eq rfl) (hb hby d3_46) (by decide) (by decide)
        have N20 := Fr.app N19 M20
        refine own_go st20 ?_
        show own_Fin p.tables e below _ (T20.setTop (mkF m 49 #[.val (.int i1), .val (.int i2), .val (.int (i1 &&& (3 : Int32))), .val (.int (i2 &&& (3 : Int32)))] [(.int (f1 i2 (1 : Int32))), (.int (f1 i1 (1 : Int32)))]))
        by_cases hc21 : (f1 i1 (1 : Int32)) = (f1 i2 (1 : Int32))
        · refine own_go (fun _ k => XS.icmpYes X20.here hx rfl (pc0 := 49) (pc' := 54) rfl (hb hby d3_49) rfl (XT.ii_eq_t hc21) (by decide) (by decide) k) ?_
          show own_Fin p.tables e below _ (T20.setTop (mkF m 54 #[.val (.int i1), .val (.int i2), .val (.int (i1 &&& (3 : Int32))), .val (.int (i2 &&& (3 : Int32)))] []))
          refine own_go (fun _ k => XS.iloadN X20.here hx rfl (hb hby d3_54) rfl k) ?_
          show own_Fin p.tables e below _ (T20.setTop (mkF m 55 #[.val (.int i1), .val (.int i2), .val (.int (i1 &&& (3 : Int32))), .val (.int (i2 &&& (3 : Int32)))] [(.int (i1 &&& (3 : Int32)))]))
          refine own_go (fun _ k => XT.iconstV X20.here hx rfl (2 : Int32) (hb hby d3_55) (by decide) k) ?_
          show own_Fin p.tables e below _ (T20.setTop (mkF m 56 #[.val (.int i1), .val (.int i2), .val (.int (i1 &&& (3 : Int32))), .val (.int (i2 &&& (3 : Int32)))] [(.int (2 : Int32)), (.int (i1 &&& (3 : Int32)))]))
          by_cases hc22 : (2 : Int32) < (i1 &&& (3 : Int32))
          · refine own_go (fun _ k => XS.icmpNo X20.here hx rfl (hb hby d3_56) rfl (XT.ii_le_f hc22) k) ?_
            show own_Fin p.tables e below _ (T20.setTop (mkF m 59 #[.val (.int i1), .val (.int i2), .val (.int (i1 &&& (3 : Int32))), .val (.int (i2 &&& (3 : Int32)))] []))
            refine own_go (fun _ k => XS.iloadN X20.here hx rfl (hb hby d3_59) rfl k) ?_
            show own_Fin p.tables e below _ (T20.setTop (mkF m 60 #[.val (.int i1), .val (.int i2), .val (.int (i1 &&& (3 : Int32))), .val (.int (i2 &&& (3 : Int32)))] [(.int i1)]))
            refine own_go (fun _ k => XT.iconstV X20.here hx rfl (2 : Int32) (hb hby d3_60) (by decide) k) ?_
            show own_Fin p.tables e below _ (T20.setTop (mkF m 61 #[.val (.int i1), .val (.int i2), .val (.int (i1 &&& (3 : Int32))), .val (.int (i2 &&& (3 : Int32)))] [(.int (2 : Int32)), (.int i1)]))
            obtain ⟨_, T23, L23, X23, ⟨rfl, M23, e23⟩, st23⟩ := own_callS X20 hx hZ hown (hw _ (List.mem_of_getElem? (i := 26) rfl)) (hw _ (List.mem_of_getElem? (i := 27) rfl)) (hw _ (List.mem_of_getElem? (i := 2) rfl)) (hw _ (List.mem_of_getElem? (i := 28) rfl)) (by decide) (W := 0) (rm1 l Z a0 hw [] i1 (2 : Int32) h0 n0 (Nat.le_trans Z0 K0.1) ) (by decide) (by decide) e20 (g := (mkF m 61 #[.val (.int i1), .val (.int i2), .val (.int (i1 &&& (3 : Int32))), .val (.int (i2 &&& (3 : Int32)))] [(.int (2 : Int32)), (.int i1)])) rfl (by rw [hml]; rfl) (argsL := [(.int i1), (.int (2 : Int32))]) (rest := []) rfl (lenOf pd3 rfl) rfl (by show 2 * 0 + _ ≤ _; exact Nat.le_of_eq rfl) (hb hby d3_61) (by decide) (by decide)
            have N23 := Fr.app N20 M23
            refine own_go st23 ?_
            show own_Fin p.tables e below _ (T23.setTop (mkF m 64 #[.val (.int i1), .val (.int i2), .val (.int (i1 &&& (3 : Int32))), .val (.int (i2 &&& (3 : Int32)))] [(.int (f1 i1 (2 : Int32)))]))
            refine own_go (fun _ k => XS.iloadN X23.here hx rfl (hb hby d3_64) rfl k) ?_
            show own_Fin p.tables e below _ (T23.setTop (mkF m 65 #[.val (.int i1), .val (.int i2), .val (.int (i1 &&& (3 : Int32))), .val (.int (i2 &&& (3 : Int32)))] [(.int i2), (.int (f1 i1 (2 : Int32)))]))
            refine own_go (fun _ k => XT.iconstV X23.here hx rfl (2 : Int32) (hb hby d3_65) (by decide) k) ?_
            show own_Fin p.tables e below _ (T23.setTop (mkF m 66 #[.val (.int i1), .val (.int i2), .val (.int (i1 &&& (3 : Int32))), .val (.int (i2 &&& (3 : Int32)))] [(.int (2 : Int32)), (.int i2), (.int (f1 i1 (2 : Int32)))]))
            obtain ⟨_, T24, L24, X24, ⟨rfl, M24, e24⟩, st24⟩ := own_callS X23 hx hZ hown (hw _ (List.mem_of_getElem? (i := 26) rfl)) (hw _ (List.mem_of_getElem? (i := 27) rfl)) (hw _ (List.mem_of_getElem? (i := 2) rfl)) (hw _ (List.mem_of_getElem? (i := 28) rfl)) (by decide) (W := 1) (rm1 l Z a0 hw [] i2 (2 : Int32) h0 n0 (Nat.le_trans Z0 K0.1) ) (by decide) (by decide) e23 (g := (mkF m 66 #[.val (.int i1), .val (.int i2), .val (.int (i1 &&& (3 : Int32))), .val (.int (i2 &&& (3 : Int32)))] [(.int (2 : Int32)), (.int i2), (.int (f1 i1 (2 : Int32)))])) rfl (by rw [hml]; rfl) (argsL := [(.int i2), (.int (2 : Int32))]) (rest := [(.int (f1 i1 (2 : Int32)))]) rfl (lenOf pd3 rfl) rfl (by show 2 * 0 + _ ≤ _; exact Nat.le_of_eq rfl) (hb hby d3_66) (by decide) (by decide)
            have N24 := Fr.app N23 M24
            refine own_go st24 ?_
            show own_Fin p.tables e below _ (T24.setTop (mkF m 69 #[.val (.int i1), .val (.int i2), .val (.int (i1 &&& (3 : Int32))), .val (.int (i2 &&& (3 : Int32)))] [(.int (f1 i2 (2 : Int32))), (.int (f1 i1 (2 : Int32)))]))
            by_cases hc25 : (f1 i1 (2 : Int32)) = (f1 i2 (2 : Int32))
            · refine own_go (fun _ k => XS.icmpYes X24.here hx rfl (pc0 := 69) (pc' := 74) rfl (hb hby d3_69) rfl (XT.ii_eq_t hc25) (by decide) (by decide) k) ?_
              show own_Fin p.tables e below _ (T24.setTop (mkF m 74 #[.val (.int i1), .val (.int i2), .val (.int (i1 &&& (3 : Int32))), .val (.int (i2 &&& (3 : Int32)))] []))
              refine own_go (fun _ k => XT.iconstV X24.here hx rfl (1 : Int32) (hb hby d3_74) (by decide) k) ?_
              show own_Fin p.tables e below _ (T24.setTop (mkF m 75 #[.val (.int i1), .val (.int i2), .val (.int (i1 &&& (3 : Int32))), .val (.int (i2 &&& (3 : Int32)))] [(.int (1 : Int32))]))
              refine own_retN X24 hx hlk (t := .boolean) hret (by simp) (hb hby d3_75) ?_ (by decide) (by decide)
              exact ⟨by rw [show f3 i1 i2 = (1 : Int32) from by simp only [f3, if_pos hc1, if_neg hc2, if_pos hc18, if_pos hc21, if_pos hc22, if_pos hc25]] <;> rfl, N24, e24⟩
            · refine own_go (fun _ k => XS.icmpNo X24.here hx rfl (hb hby d3_69) rfl (XT.ii_eq_f hc25) k) ?_
              show own_Fin p.tables e below _ (T24.setTop (mkF m 72 #[.val (.int i1), .val (.int i2), .val (.int (i1 &&& (3 : Int32))), .val (.int (i2 &&& (3 : Int32)))] []))
              refine own_go (fun _ k => XT.iconstV X24.here hx rfl (0 : Int32) (hb hby d3_72) (by decide) k) ?_
              show own_Fin p.tables e below _ (T24.setTop (mkF m 73 #[.val (.int i1), .val (.int i2), .val (.int (i1 &&& (3 : Int32))), .val (.int (i2 &&& (3 : Int32)))] [(.int (0 : Int32))]))
              refine own_retN X24 hx hlk (t := .boolean) hret (by simp) (hb hby d3_73) ?_ (by decide) (by decide)
              exact ⟨by rw [show f3 i1 i2 = (0 : Int32) from by simp only [f3, if_pos hc1, if_neg hc2, if_pos hc18, if_pos hc21, if_pos hc22, if_neg hc25]] <;> rfl, N24, e24⟩
          · refine own_go (fun _ k => XS.icmpYes X20.here hx rfl (pc0 := 56) (pc' := 74) rfl (hb hby d3_56) rfl (XT.ii_le_t hc22) (by decide) (by decide) k) ?_
            show own_Fin p.tables e below _ (T20.setTop (mkF m 74 #[.val (.int i1), .val (.int i2), .val (.int (i1 &&& (3 : Int32))), .val (.int (i2 &&& (3 : Int32)))] []))
            refine own_go (fun _ k => XT.iconstV X20.here hx rfl (1 : Int32) (hb hby d3_74) (by decide) k) ?_
            show own_Fin p.tables e below _ (T20.setTop (mkF m 75 #[.val (.int i1), .val (.int i2), .val (.int (i1 &&& (3 : Int32))), .val (.int (i2 &&& (3 : Int32)))] [(.int (1 : Int32))]))
            refine own_retN X20 hx hlk (t := .boolean) hret (by simp) (hb hby d3_75) ?_ (by decide) (by decide)
            exact ⟨by rw [show f3 i1 i2 = (1 : Int32) from by simp only [f3, if_pos hc1, if_neg hc2, if_pos hc18, if_pos hc21, if_neg hc22]] <;> rfl, N20, e20⟩
        · refine own_go (fun _ k => XS.icmpNo X20.here hx rfl (hb hby d3_49) rfl (XT.ii_eq_f hc21) k) ?_
          show own_Fin p.tables e below _ (T20.setTop (mkF m 52 #[.val (.int i1), .val (.int i2), .val (.int (i1 &&& (3 : Int32))), .val (.int (i2 &&& (3 : Int32)))] []))
          refine own_go (fun _ k => XT.iconstV X20.here hx rfl (0 : Int32) (hb hby d3_52) (by decide) k) ?_
          show own_Fin p.tables e below _ (T20.setTop (mkF m 53 #[.val (.int i1), .val (.int i2), .val (.int (i1 &&& (3 : Int32))), .val (.int (i2 &&& (3 : Int32)))] [(.int (0 : Int32))]))
          refine own_retN X20 hx hlk (t := .boolean) hret (by simp) (hb hby d3_53) ?_ (by decide) (by decide)
          exact ⟨by rw [show f3 i1 i2 = (0 : Int32) from by simp only [f3, if_pos hc1, if_neg hc2, if_pos hc18, if_neg hc21]] <;> rfl, N20, e20⟩
      · refine own_go (fun _ k => XS.icmpYes X0.here hx rfl (pc0 := 36) (pc' := 54) rfl (hb hby d3_36) rfl (XT.ii_le_t hc18) (by decide) (by decide) k) ?_
        show own_Fin p.tables e below _ (s₁.setTop (mkF m 54 #[.val (.int i1), .val (.int i2), .val (.int (i1 &&& (3 : Int32))), .val (.int (i2 &&& (3 : Int32)))] []))
        refine own_go (fun _ k => XS.iloadN X0.here hx rfl (hb hby d3_54) rfl k) ?_
        show own_Fin p.tables e below _ (s₁.setTop (mkF m 55 #[.val (.int i1), .val (.int i2), .val (.int (i1 &&& (3 : Int32))), .val (.int (i2 &&& (3 : Int32)))] [(.int (i1 &&& (3 : Int32)))]))
        refine own_go (fun _ k => XT.iconstV X0.here hx rfl (2 : Int32) (hb hby d3_55) (by decide) k) ?_
        show own_Fin p.tables e below _ (s₁.setTop (mkF m 56 #[.val (.int i1), .val (.int i2), .val (.int (i1 &&& (3 : Int32))), .val (.int (i2 &&& (3 : Int32)))] [(.int (2 : Int32)), (.int (i1 &&& (3 : Int32)))]))
        by_cases hc26 : (2 : Int32) < (i1 &&& (3 : Int32))
        · refine own_go (fun _ k => XS.icmpNo X0.here hx rfl (hb hby d3_56) rfl (XT.ii_le_f hc26) k) ?_
          show own_Fin p.tables e below _ (s₁.setTop (mkF m 59 #[.val (.int i1), .val (.int i2), .val (.int (i1 &&& (3 : Int32))), .val (.int (i2 &&& (3 : Int32)))] []))
          refine own_go (fun _ k => XS.iloadN X0.here hx rfl (hb hby d3_59) rfl k) ?_
          show own_Fin p.tables e below _ (s₁.setTop (mkF m 60 #[.val (.int i1), .val (.int i2), .val (.int (i1 &&& (3 : Int32))), .val (.int (i2 &&& (3 : Int32)))] [(.int i1)]))
          refine own_go (fun _ k => XT.iconstV X0.here hx rfl (2 : Int32) (hb hby d3_60) (by decide) k) ?_
          show own_Fin p.tables e below _ (s₁.setTop (mkF m 61 #[.val (.int i1), .val (.int i2), .val (.int (i1 &&& (3 : Int32))), .val (.int (i2 &&& (3 : Int32)))] [(.int (2 : Int32)), (.int i1)]))
          obtain ⟨_, T27, L27, X27, ⟨rfl, M27, e27⟩, st27⟩ := own_callS X0 hx hZ hown (hw _ (List.mem_of_getElem? (i := 26) rfl)) (hw _ (List.mem_of_getElem? (i := 27) rfl)) (hw _ (List.mem_of_getElem? (i := 2) rfl)) (hw _ (List.mem_of_getElem? (i := 28) rfl)) (by decide) (W := 0) (rm1 l Z a0 hw [] i1 (2 : Int32) h0 n0 (Nat.le_trans Z0 K0.1) ) (by decide) (by decide) e0 (g := (mkF m 61 #[.val (.int i1), .val (.int i2), .val (.int (i1 &&& (3 : Int32))), .val (.int (i2 &&& (3 : Int32)))] [(.int (2 : Int32)), (.int i1)])) rfl (by rw [hml]; rfl) (argsL := [(.int i1), (.int (2 : Int32))]) (rest := []) rfl (lenOf pd3 rfl) rfl (by show 2 * 0 + _ ≤ _; exact Nat.le_of_eq rfl) (hb hby d3_61) (by decide) (by decide)
          have N27 := Fr.app N0 M27
          refine own_go st27 ?_
          show own_Fin p.tables e below _ (T27.setTop (mkF m 64 #[.val (.int i1), .val (.int i2), .val (.int (i1 &&& (3 : Int32))), .val (.int (i2 &&& (3 : Int32)))] [(.int (f1 i1 (2 : Int32)))]))
          refine own_go (fun _ k => XS.iloadN X27.here hx rfl (hb hby d3_64) rfl k) ?_
          show own_Fin p.tables e below _ (T27.setTop (mkF m 65 #[.val (.int i1), .val (.int i2), .val (.int (i1 &&& (3 : Int32))), .val (.int (i2 &&& (3 : Int32)))] [(.int i2), (.int (f1 i1 (2 : Int32)))]))
          refine own_go (fun _ k => XT.iconstV X27.here hx rfl (2 : Int32) (hb hby d3_65) (by decide) k) ?_
          show own_Fin p.tables e below _ (T27.setTop (mkF m 66 #[.val (.int i1), .val (.int i2), .val (.int (i1 &&& (3 : Int32))), .val (.int (i2 &&& (3 : Int32)))] [(.int (2 : Int32)), (.int i2), (.int (f1 i1 (2 : Int32)))]))
          obtain ⟨_, T28, L28, X28, ⟨rfl, M28, e28⟩, st28⟩ := own_callS X27 hx hZ hown (hw _ (List.mem_of_getElem? (i := 26) rfl)) (hw _ (List.mem_of_getElem? (i := 27) rfl)) (hw _ (List.mem_of_getElem? (i := 2) rfl)) (hw _ (List.mem_of_getElem? (i := 28) rfl)) (by decide) (W := 1) (rm1 l Z a0 hw [] i2 (2 : Int32) h0 n0 (Nat.le_trans Z0 K0.1) ) (by decide) (by decide) e27 (g := (mkF m 66 #[.val (.int i1), .val (.int i2), .val (.int (i1 &&& (3 : Int32))), .val (.int (i2 &&& (3 : Int32)))] [(.int (2 : Int32)), (.int i2), (.int (f1 i1 (2 : Int32)))])) rfl (by rw [hml]; rfl) (argsL := [(.int i2), (.int (2 : Int32))]) (rest := [(.int (f1 i1 (2 : Int32)))]) rfl (lenOf pd3 rfl) rfl (by show 2 * 0 + _ ≤ _; exact Nat.le_of_eq rfl) (hb hby d3_66) (by decide) (by decide)
          have N28 := Fr.app N27 M28
          refine own_go st28 ?_
          show own_Fin p.tables e below _ (T28.setTop (mkF m 69 #[.val (.int i1), .val (.int i2), .val (.int (i1 &&& (3 : Int32))), .val (.int (i2 &&& (3 : Int32)))] [(.int (f1 i2 (2 : Int32))), (.int (f1 i1 (2 : Int32)))]))
          by_cases hc29 : (f1 i1 (2 : Int32)) = (f1 i2 (2 : Int32))
          · refine own_go (fun _ k => XS.icmpYes X28.here hx rfl (pc0 := 69) (pc' := 74) rfl (hb hby d3_69) rfl (XT.ii_eq_t hc29) (by decide) (by decide) k) ?_
            show own_Fin p.tables e below _ (T28.setTop (mkF m 74 #[.val (.int i1), .val (.int i2), .val (.int (i1 &&& (3 : Int32))), .val (.int (i2 &&& (3 : Int32)))] []))
            refine own_go (fun _ k => XT.iconstV X28.here hx rfl (1 : Int32) (hb hby d3_74) (by decide) k) ?_
            show own_Fin p.tables e below _ (T28.setTop (mkF m 75 #[.val (.int i1), .val (.int i2), .val (.int (i1 &&& (3 : Int32))), .val (.int (i2 &&& (3 : Int32)))] [(.int (1 : Int32))]))
            refine own_retN X28 hx hlk (t := .boolean) hret (by simp) (hb hby d3_75) ?_ (by decide) (by decide)
            exact ⟨by rw [show f3 i1 i2 = (1 : Int32) from by simp only [f3, if_pos hc1, if_neg hc2, if_neg hc18, if_pos hc26, if_pos hc29]] <;> rfl, N28, e28⟩
          · refine own_go (fun _ k => XS.icmpNo X28.here hx rfl (hb hby d3_69) rfl (XT.ii_eq_f hc29) k) ?_
            show own_Fin p.tables e below _ (T28.setTop (mkF m 72 #[.val (.int i1), .val (.int i2), .val (.int (i1 &&& (3 : Int32))), .val (.int (i2 &&& (3 : Int32)))] []))
            refine own_go (fun _ k => XT.iconstV X28.here hx rfl (0 : Int32) (hb hby d3_72) (by decide) k) ?_
            show own_Fin p.tables e below _ (T28.setTop (mkF m 73 #[.val (.int i1), .val (.int i2), .val (.int (i1 &&& (3 : Int32))), .val (.int (i2 &&& (3 : Int32)))] [(.int (0 : Int32))]))
            refine own_retN X28 hx hlk (t := .boolean) hret (by simp) (hb hby d3_73) ?_ (by decide) (by decide)
            exact ⟨by rw [show f3 i1 i2 = (0 : Int32) from by simp only [f3, if_pos hc1, if_neg hc2, if_neg hc18, if_pos hc26, if_neg hc29]] <;> rfl, N28, e28⟩
        · refine own_go (fun _ k => XS.icmpYes X0.here hx rfl (pc0 := 56) (pc' := 74) rfl (hb hby d3_56) rfl (XT.ii_le_t hc26) (by decide) (by decide) k) ?_
          show own_Fin p.tables e below _ (s₁.setTop (mkF m 74 #[.val (.int i1), .val (.int i2), .val (.int (i1 &&& (3 : Int32))), .val (.int (i2 &&& (3 : Int32)))] []))
          refine own_go (fun _ k => XT.iconstV X0.here hx rfl (1 : Int32) (hb hby d3_74) (by decide) k) ?_
          show own_Fin p.tables e below _ (s₁.setTop (mkF m 75 #[.val (.int i1), .val (.int i2), .val (.int (i1 &&& (3 : Int32))), .val (.int (i2 &&& (3 : Int32)))] [(.int (1 : Int32))]))
          refine own_retN X0 hx hlk (t := .boolean) hret (by simp) (hb hby d3_75) ?_ (by decide) (by decide)
          exact ⟨by rw [show f3 i1 i2 = (1 : Int32) from by simp only [f3, if_pos hc1, if_neg hc2, if_neg hc18, if_neg hc26]] <;> rfl, N0, e0⟩
  · refine own_go (fun _ k => XS.icmpNo X0.here hx rfl (hb hby d3_10) rfl (XT.ii_eq_f hc1) k) ?_
    show own_Fin p.tables e below _ (s₁.setTop (mkF m 13 #[.val (.int i1), .val (.int i2), .val (.int (i1 &&& (3 : Int32))), .val (.int (i2 &&& (3 : Int32)))] []))
    refine own_go (fun _ k => XT.iconstV X0.here hx rfl (0 : Int32) (hb hby d3_13) (by decide) k) ?_
    show own_Fin p.tables e below _ (s₁.setTop (mkF m 14 #[.val (.int i1), .val (.int i2), .val (.int (i1 &&& (3 : Int32))), .val (.int (i2 &&& (3 : Int32)))] [(.int (0 : Int32))]))
    refine own_retN X0 hx hlk (t := .boolean) hret (by simp) (hb hby d3_14) ?_ (by decide) (by decide)
    exact ⟨by rw [show f3 i1 i2 = (0 : Int32) from by simp only [f3, if_neg hc1]] <;> rfl, N0, e0⟩
theorem d4_0 : decode jdk_30_method_1_code 0 = .ok (.aload_n 0, 1) := by decide +kernel
theorem d4_1 : decode jdk_30_method_1_code 1 = .ok (.invokespecial 1, 3) := by decide +kernel
theorem d4_4 : decode jdk_30_method_1_code 4 = .ok (.return_, 1) := by decide +kernel
theorem pn2 : plainName "java/lang/Record" = true := by first | (simp [plainName, overriddenIn]; done) | decide +kernel
theorem pd6 : parseMethodDescriptor "()V" = some ⟨[], none⟩ := by decide +kernel
theorem ef4 (m : MethodId) (r0 : Addr) : entryFrame m #[(.ref r0)] 1 = mkF m 0 #[.val (.ref r0)] [] := by first | (simp [entryFrame, mkF, argsToLocals, Value.category]; done) | rfl
set_option maxRecDepth 65536 in
set_option maxHeartbeats 40000000 in
theorem rm4 (l : Launch) (Z : State) (a0 : Array Value) (hw : ∀ d ∈ tables_1, d.before a0 Z = true) (ws : List Jvm.Cond) (r0 : Addr) (h0 : Heap) (n0 : Nat) (Z0 : n0 ≤ h0.size)  :
    own_Met l (⟨"java/lang/Record", "<init>", "()V"⟩ : MethodName) jdk_30_method_1_code 1 none ({ frames := 1, cells := 0, slots := 0, locals := 12 } : Room) ws #[(.ref r0)] Z h0 0 0 (own_QP none h0 n0) := by
  refine own_met (plainFor_of_name pn2) ?_
  intro p e s m below meth c s₁ hx hby hml hown hnm hret hlk hZ e0 X0
  have hml : c.maxLocals = 1 := hml
  have N0 := Fr.nil n0
  have K0 := Keep.refl h0 []
  refine own_go (fun _ k => castTop (ef4 m r0) k) ?_
  show own_Fin p.tables e below _ (s₁.setTop (mkF m 0 #[.val (.ref r0)] []))
  refine own_go (fun _ k => XS.aloadN X0.here hx rfl (hb hby d4_0) rfl rfl k) ?_
  show own_Fin p.tables e below _ (s₁.setTop (mkF m 1 #[.val (.ref r0)] [(.ref r0)]))
  obtain ⟨T1, X1, e1, st1⟩ := initO X0 hx hZ hown (hw _ (List.mem_of_getElem? (i := 55) rfl)) (hw _ (List.mem_of_getElem? (i := 16) rfl)) (hw _ (List.mem_of_getElem? (i := 17) rfl)) e0 (g := (mkF m 1 #[.val (.ref r0)] [(.ref r0)])) rfl (by rw [hml]; rfl) rfl (hb hby d4_1) (by decide) (W := 0) (by show 2 * 0 + _ ≤ _; exact Nat.le_of_eq rfl) (by decide)
  refine own_go st1 ?_
  show own_Fin p.tables e below _ (T1.setTop (mkF m 4 #[.val (.ref r0)] []))
  refine own_retV X1 hx hlk hret (hb hby d4_4) ?_ (by decide) (by decide)
  exact ⟨rfl, N0, e1⟩
theorem d5_0 : decode prog_16_method_1_code 0 = .ok (.aload_n 0, 1) := by decide +kernel
theorem d5_1 : decode prog_16_method_1_code 1 = .ok (.invokespecial 1, 3) := by decide +kernel
theorem d5_4 : decode prog_16_method_1_code 4 = .ok (.aload_n 0, 1) := by decide +kernel
theorem d5_5 : decode prog_16_method_1_code 5 = .ok (.aload_n 1, 1) := by decide +kernel
theorem d5_6 : decode prog_16_method_1_code 6 = .ok (.putfield 7, 3) := by decide +kernel
theorem d5_9 : decode prog_16_method_1_code 9 = .ok (.aload_n 0, 1) := by decide +kernel
theorem d5_10 : decode prog_16_method_1_code 10 = .ok (.aload_n 2, 1) := by decide +kernel
theorem d5_11 : decode prog_16_method_1_code 11 = .ok (.putfield 13, 3) := by decide +kernel
theorem d5_14 : decode prog_16_method_1_code 14 = .ok (.aload_n 0, 1) := by decide +kernel
theorem d5_15 : decode prog_16_method_1_code 15 = .ok (.aload_n 3, 1) := by decide +kernel
theorem d5_16 : decode prog_16_method_1_code 16 = .ok (.putfield 16, 3) := by decide +kernel
theorem d5_19 : decode prog_16_method_1_code 19 = .ok (.aload_n 0, 1) := by decide +kernel
theorem d5_20 : decode prog_16_method_1_code 20 = .ok (.aload 4, 2) := by decide +kernel
theorem d5_22 : decode prog_16_method_1_code 22 = .ok (.putfield 20, 3) := by decide +kernel
theorem d5_25 : decode prog_16_method_1_code 25 = .ok (.return_, 1) := by decide +kernel
theorem pn3 : plainName "com/example/tremorgrid/tremorgrid/app/Arguments$Option" = true := by first | (simp [plainName, overriddenIn]; done) | decide +kernel
theorem pd7 : parseMethodDescriptor "(Ljava/lang/String;Ljava/lang/String;Lcom/example/tremorgrid/tremorgrid/app/Arguments$Kind;Ljava/lang/String;)V" = some ⟨[(.object "java/lang/String"), (.object "java/lang/String"), (.object "com/example/tremorgrid/tremorgrid/app/Arguments$Kind"), (.object "java/lang/String")], none⟩ := by decide +kernel
theorem ef5 (m : MethodId) (r0 : Addr) (r1 : Addr) (r2 : Addr) (r3 : Addr) (r4 : Addr) : entryFrame m #[(.ref r0), (.ref r1), (.ref r2), (.ref r3), (.ref r4)] 5 = mkF m 0 #[.val (.ref r0), .val (.ref r1), .val (.ref r2), .val (.ref r3), .val (.ref r4)] [] := by first | (simp [entryFrame, mkF, argsToLocals, Value.category]; done) | rfl
set_option maxRecDepth 65536 in
set_option maxHeartbeats 40000000 in
theorem rm5 (l : Launch) (Z : State) (a0 : Array Value) (hw : ∀ d ∈ tables_1, d.before a0 Z = true) (ws : List Jvm.Cond) (r0 : Addr) (r1 : Addr) (r2 : Addr) (r3 : Addr) (r4 : Addr) (u_name : Value) (u_alias : Value) (u_kind : Value) (u_value : Value) (h0 : Heap) (n0 : Nat) (Z0 : n0 ≤ h0.size) (E_a : Exa Z h0 r0 "com/example/tremorgrid/tremorgrid/app/Arguments$Option") (F_name : Fld Z h0 r0 "com/example/tremorgrid/tremorgrid/app/Arguments$Option" "name" "Ljava/lang/String;" u_name) (F_alias : Fld Z h0 r0 "com/example/tremorgrid/tremorgrid/app/Arguments$Option" "alias" "Ljava/lang/String;" u_alias) (F_kind : Fld Z h0 r0 "com/example/tremorgrid/tremorgrid/app/Arguments$Option" "kind" "Lcom/example/tremorgrid/tremorgrid/app/Arguments$Kind;" u_kind) (F_value : Fld Z h0 r0 "com/example/tremorgrid/tremorgrid/app/Arguments$Option" "value" "Ljava/lang/String;" u_value) (g_a : n0 ≤ r0) :
    own_Met l (⟨"com/example/tremorgrid/tremorgrid/app/Arguments$Option", "<init>", "(Ljava/lang/String;Ljava/lang/String;Lcom/example/tremorgrid/tremorgrid/app/Arguments$Kind;Ljava/lang/String;)V"⟩ : MethodName) prog_16_method_1_code 5 none ({ frames := 2, cells := 0, slots := 0, locals := 24 } : Room) ws #[(.ref r0), (.ref r1), (.ref r2), (.ref r3), (.ref r4)] Z h0 0 0 (fun v h L => v = none ∧ Fr n0 L ∧ Keep h0 h [r0] ∧ Exa Z h r0 "com/example/tremorgrid/tremorgrid/app/Arguments$Option" ∧ Fld Z h r0 "com/example/tremorgrid/tremorgrid/app/Arguments$Option" "name" "Ljava/lang/String;" (.ref r1) ∧ Fld Z h r0 "com/example/tremorgrid/tremorgrid/app/Arguments$Option" "alias" "Ljava/lang/String;" (.ref r2) ∧ Fld Z h r0 "com/example/tremorgrid/tremorgrid/app/Arguments$Option" "kind" "Lcom/example/tremorgrid/tremorgrid/app/Arguments$Kind;" (.ref r3) ∧ Fld Z h r0 "com/example/tremorgrid/tremorgrid/app/Arguments$Option" "value" "Ljava/lang/String;" (.ref r4)) := by
  refine own_met (plainFor_of_name pn3) ?_
  intro p e s m below meth c s₁ hx hby hml hown hnm hret hlk hZ e0 X0
  have hml : c.maxLocals = 5 := hml
  have N0 := Fr.nil n0
  have K0 := Keep.refl h0 [r0]
  refine own_go (fun _ k => castTop (ef5 m r0 r1 r2 r3 r4) k) ?_
  show own_Fin p.tables e below _ (s₁.setTop (mkF m 0 #[.val (.ref r0), .val (.ref r1), .val (.ref r2), .val (.ref r3), .val (.ref r4)] []))
  refine own_go (fun _ k => XS.aloadN X0.here hx rfl (hb hby d5_0) rfl rfl k) ?_
  show own_Fin p.tables e below _ (s₁.setTop (mkF m 1 #[.val (.ref r0), .val (.ref r1), .val (.ref r2), .val (.ref r3), .val (.ref r4)] [(.ref r0)]))
  obtain ⟨_, T1, L1, X1, ⟨rfl, M1, e1⟩, st1⟩ := own_callC X0 hx hZ hown rfl (hw _ (List.mem_of_getElem? (i := 50) rfl)) (hw _ (List.mem_of_getElem? (i := 51) rfl)) (hw _ (List.mem_of_getElem? (i := 53) rfl)) (hw _ (List.mem_of_getElem? (i := 54) rfl)) (by decide) (W := 0) (rm4 l Z a0 hw [] r0 h0 n0 (Nat.le_trans Z0 K0.1) ) (by decide) (by decide) e0 (g := (mkF m 1 #[.val (.ref r0), .val (.ref r1), .val (.ref r2), .val (.ref r3), .val (.ref r4)] [(.ref r0)])) rfl (by rw [hml]; rfl) (argsL := []) (rest := []) rfl (lenOf pd6 rfl) rfl (by show 2 * 0 + _ ≤ _; exact Nat.le_of_eq rfl) (hb hby d5_1) (by decide) (by decide)
  have N1 := Fr.app N0 M1
  refine own_go st1 ?_
  show own_Fin p.tables e below _ (T1.setTop (mkF m 4 #[.val (.ref r0), .val (.ref r1), .val (.ref r2), .val (.ref r3), .val (.ref r4)] []))
  refine own_go (fun _ k => XS.aloadN X1.here hx rfl (hb hby d5_4) rfl rfl k) ?_
  show own_Fin p.tables e below _ (T1.setTop (mkF m 5 #[.val (.ref r0), .val (.ref r1), .val (.ref r2), .val (.ref r3), .val (.ref r4)] [(.ref r0)]))
  refine own_go (fun _ k => XS.aloadN X1.here hx rfl (hb hby d5_5) rfl rfl k) ?_
  show own_Fin p.tables e below _ (T1.setTop (mkF m 6 #[.val (.ref r0), .val (.ref r1), .val (.ref r2), .val (.ref r3), .val (.ref r4)] [(.ref r1), (.ref r0)]))
  obtain ⟨T2, h2, X2, e2, W2, st2⟩ := putF X1 hx hZ hown (host := "") (Or.inl (hw _ (List.mem_of_getElem? (i := 56) rfl))) Via.refl e1 F_name E_a (Or.inr ⟨(hw _ (List.mem_of_getElem? (i := 57) rfl)), rfl, hnm⟩) (hw _ (List.mem_of_getElem? (i := 45) rfl)) (ty := (.object "java/lang/String")) (by decide) rfl rfl (g := (mkF m 6 #[.val (.ref r0), .val (.ref r1), .val (.ref r2), .val (.ref r3), .val (.ref r4)] [(.ref r1), (.ref r0)])) rfl rfl (hb hby d5_6)
  have K2 := K0.wr W2 (Or.inl (List.mem_of_getElem? (i := 0) rfl))
  have N2 := Fr.snoc X2 N1 g_a
  have Er0_2 := E_a.wr W2
  have Fr0_name_2 := F_name.same W2
  have Fr0_alias_2 := F_alias.other W2 (Or.inr (slot_ne (Or.inr (hw _ (List.mem_of_getElem? (i := 59) rfl))) (Or.inr (hw _ (List.mem_of_getElem? (i := 57) rfl))) (by decide) (t := (.object "java/lang/String")) (t' := (.object "java/lang/String")) (by decide) (by decide)))
  have Fr0_kind_2 := F_kind.other W2 (Or.inr (slot_ne (Or.inr (hw _ (List.mem_of_getElem? (i := 61) rfl))) (Or.inr (hw _ (List.mem_of_getElem? (i := 57) rfl))) (by decide) (t := (.object "com/example/tremorgrid/tremorgrid/app/Arguments$Kind")) (t' := (.object "java/lang/String")) (by decide) (by decide)))
  have Fr0_value_2 := F_value.other W2 (Or.inr (slot_ne (Or.inr (hw _ (List.mem_of_getElem? (i := 63) rfl))) (Or.inr (hw _ (List.mem_of_getElem? (i := 57) rfl))) (by decide) (t := (.object "java/lang/String")) (t' := (.object "java/lang/String")) (by decide) (by decide)))
  refine own_go st2 ?_
  show own_Fin p.tables e below _ (T2.setTop (mkF m 9 #[.val (.ref r0), .val (.ref r1), .val (.ref r2), .val (.ref r3), .val (.ref r4)] []))
  refine own_go (fun _ k => XS.aloadN X2.here hx rfl (hb hby d5_9) rfl rfl k) ?_
  show own_Fin p.tables e below _ (T2.setTop (mkF m 10 #[.val (.ref r0), .val (.ref r1), .val (.ref r2), .val (.ref r3), .val (.ref r4)] [(.ref r0)]))
  refine own_go (fun _ k => XS.aloadN X2.here hx rfl (hb hby d5_10) rfl rfl k) ?_
  show own_Fin p.tables e below _ (T2.setTop (mkF m 11 #[.val (.ref r0), .val (.ref r1), .val (.ref r2), .val (.ref r3), .val (.ref r4)] [(.ref r2), (.ref r0)]))
  obtain ⟨T3, h3, X3, e3, W3, st3⟩ := putF X2 hx hZ hown (host := "") (Or.inl (hw _ (List.mem_of_getElem? (i := 58) rfl))) Via.refl e2 Fr0_alias_2 Er0_2 (Or.inr ⟨(hw _ (List.mem_of_getElem? (i := 59) rfl)), rfl, hnm⟩) (hw _ (List.mem_of_getElem? (i := 45) rfl)) (ty := (.object "java/lang/String")) (by decide) rfl rfl (g := (mkF m 11 #[.val (.ref r0), .val (.ref r1), .val (.ref r2), .val (.ref r3), .val (.ref r4)] [(.ref r2), (.ref r0)])) rfl rfl (hb hby d5_11)
  have K3 := K2.wr W3 (Or.inl (List.mem_of_getElem? (i := 0) rfl))
  have N3 := Fr.snoc X3 N2 g_a
  have Er0_3 := Er0_2.wr W3
  have Fr0_name_3 := Fr0_name_2.other W3 (Or.inr (slot_ne (Or.inr (hw _ (List.mem_of_getElem? (i := 57) rfl))) (Or.inr (hw _ (List.mem_of_getElem? (i := 59) rfl))) (by decide) (t := (.object "java/lang/String")) (t' := (.object "java/lang/String")) (by decide) (by decide)))
  have Fr0_alias_3 := Fr0_alias_2.same W3
  have Fr0_kind_3 := Fr0_kind_2.other W3 (Or.inr (slot_ne (Or.inr (hw _ (List.mem_of_getElem? (i := 61) rfl))) (Or.inr (hw _ (List.mem_of_getElem? (i := 59) rfl))) (by decide) (t := (.object "com/example/tremorgrid/tremorgrid/app/Arguments$Kind")) (t' := (.object "java/lang/String")) (by decide) (by decide)))
  have Fr0_value_3 := Fr0_value_2.other W3 (Or.inr (slot_ne (Or.inr (hw _ (List.mem_of_getElem? (i := 63) rfl))) (Or.inr (hw _ (List.mem_of_getElem? (i := 59) rfl))) (by decide) (t := (.object "java/lang/String")) (t' := (.object "java/lang/String")) (by decide) (by decide)))
  refine own_go st3 ?_
  show own_Fin p.tables e below _ (T3.setTop (mkF m 14 #[.val (.ref r0), .val (.ref r1), .val (.ref r2), .val (.ref r3), .val (.ref r4)] []))
  refine own_go (fun _ k => XS.aloadN X3.here hx rfl (hb hby d5_14) rfl rfl k) ?_
  show own_Fin p.tables e below _ (T3.setTop (mkF m 15 #[.val (.ref r0), .val (.ref r1), .val (.ref r2), .val (.ref r3), .val (.ref r4)] [(.ref r0)]))
  refine own_go (fun _ k => XS.aloadN X3.here hx rfl (hb hby d5_15) rfl rfl k) ?_
  show own_Fin p.tables e below _ (T3.setTop (mkF m 16 #[.val (.ref r0), .val (.ref r1), .val (.ref r2), .val (.ref r3), .val (.ref r4)] [(.ref r3), (.ref r0)]))
  obtain ⟨T4, h4, X4, e4, W4, st4⟩ := putF X3 hx hZ hown (host := "") (Or.inl (hw _ (List.mem_of_getElem? (i := 60) rfl))) Via.refl e3 Fr0_kind_3 Er0_3 (Or.inr ⟨(hw _ (List.mem_of_getElem? (i := 61) rfl)), rfl, hnm⟩) (hw _ (List.mem_of_getElem? (i := 45) rfl)) (ty := (.object "com/example/tremorgrid/tremorgrid/app/Arguments$Kind")) (by decide) rfl rfl (g := (mkF m 16 #[.val (.ref r0), .val (.ref r1), .val (.ref r2), .val (.ref r3), .val (.ref r4)] [(.ref r3), (.ref r0)])) rfl rfl (hb hby d5_16)
  have K4 := K3.wr W4 (Or.inl (List.mem_of_getElem? (i := 0) rfl))
  have N4 := Fr.snoc X4 N3 g_a
  have Er0_4 := Er0_3.wr W4
  have Fr0_name_4 := Fr0_name_3.other W4 (Or.inr (slot_ne (Or.inr (hw _ (List.mem_of_getElem? (i := 57) rfl))) (Or.inr (hw _ (List.mem_of_getElem? (i := 61) rfl))) (by decide) (t := (.object "java/lang/String")) (t' := (.object "com/example/tremorgrid/tremorgrid/app/Arguments$Kind")) (by decide) (by decide)))
  have Fr0_alias_4 := Fr0_alias_3.other W4 (Or.inr (slot_ne (Or.inr (hw _ (List.mem_of_getElem? (i := 59) rfl))) (Or.inr (hw _ (List.mem_of_getElem? (i := 61) rfl))) (by decide) (t := (.object "java/lang/String")) (t' := (.object "com/example/tremorgrid/tremorgrid/app/Arguments$Kind")) (by decide) (by decide)))
  have Fr0_kind_4 := Fr0_kind_3.same W4
  have Fr0_value_4 := Fr0_value_3.other W4 (Or.inr (slot_ne (Or.inr (hw _ (List.mem_of_getElem? (i := 63) rfl))) (Or.inr (hw _ (List.mem_of_getElem? (i := 61) rfl))) (by decide) (t := (.object "java/lang/String")) (t' := (.object "com/example/tremorgrid/tremorgrid/app/Arguments$Kind")) (by decide) (by decide)))
  refine own_go st4 ?_
  show own_Fin p.tables e below _ (T4.setTop (mkF m 19 #[.val (.ref r0), .val (.ref r1), .val (.ref r2), .val (.ref r3), .val (.ref r4)] []))
  refine own_go (fun _ k => XS.aloadN X4.here hx rfl (hb hby d5_19) rfl rfl k) ?_
  show own_Fin p.tables e below _ (T4.setTop (mkF m 20 #[.val (.ref r0), .val (.ref r1), .val (.ref r2), .val (.ref r3), .val (.ref r4)] [(.ref r0)]))
  refine own_go (fun _ k => XS.aload X4.here hx rfl (hb hby d5_20) rfl rfl k) ?_
  show own_Fin p.tables e below _ (T4.setTop (mkF m 22 #[.val (.ref r0), .val (.ref r1), .val (.ref r2), .val (.ref r3), .val (.ref r4)] [(.ref r4), (.ref r0)]))
  obtain ⟨T5, h5, X5, e5, W5, st5⟩ := putF X4 hx hZ hown (host := "") (Or.inl (hw _ (List.mem_of_getElem? (i := 62) rfl))) Via.refl e4 Fr0_value_4 Er0_4 (Or.inr ⟨(hw _ (List.mem_of_getElem? (i := 63) rfl)), rfl, hnm⟩) (hw _ (List.mem_of_getElem? (i := 45) rfl)) (ty := (.object "java/lang/String")) (by decide) rfl rfl (g := (mkF m 22 #[.val (.ref r0), .val (.ref r1), .val (.ref r2), .val (.ref r3), .val (.ref r4)] [(.ref r4), (.ref r0)])) rfl rfl (hb hby d5_22)
  have K5 := K4.wr W5 (Or.inl (List.mem_of_getElem? (i := 0) rfl))
  have N5 := Fr.snoc X5 N4 g_a
  have Er0_5 := Er0_4.wr W5
  have Fr0_name_5 := Fr0_name_4.other W5 (Or.inr (slot_ne (Or.inr (hw _ (List.mem_of_getElem? (i := 57) rfl))) (Or.inr (hw _ (List.mem_of_getElem? (i := 63) rfl))) (by decide) (t := (.object "java/lang/String")) (t' := (.object "java/lang/String")) (by decide) (by decide)))
  have Fr0_alias_5 := Fr0_alias_4.other W5 (Or.inr (slot_ne (Or.inr (hw _ (List.mem_of_getElem? (i := 59) rfl))) (Or.inr (hw _ (List.mem_of_getElem? (i := 63) rfl))) (by decide) (t := (.object "java/lang/String")) (t' := (.object "java/lang/String")) (by decide) (by decide)))
  have Fr0_kind_5 := Fr0_kind_4.other W5 (Or.inr (slot_ne (Or.inr (hw _ (List.mem_of_getElem? (i := 61) rfl))) (Or.inr (hw _ (List.mem_of_getElem? (i := 63) rfl))) (by decide) (t := (.object "com/example/tremorgrid/tremorgrid/app/Arguments$Kind")) (t' := (.object "java/lang/String")) (by decide) (by decide)))
  have Fr0_value_5 := Fr0_value_4.same W5
  refine own_go st5 ?_
  show own_Fin p.tables e below _ (T5.setTop (mkF m 25 #[.val (.ref r0), .val (.ref r1), .val (.ref r2), .val (.ref r3), .val (.ref r4)] []))
  refine own_retV X5 hx hlk hret (hb hby d5_25) ?_ (by decide) (by decide)
  show _ ∧ _ ∧ Keep h0 T5.heap _ ∧ _
  rw [e5]
  exact ⟨rfl, N5, K5, Er0_5, Fr0_name_5, Fr0_alias_5, Fr0_kind_5, Fr0_value_5⟩
theorem d6_0 : decode prog_16_method_1_code 0 = .ok (.aload_n 0, 1) := by decide +kernel
theorem d6_1 : decode prog_16_method_1_code 1 = .ok (.invokespecial 1, 3) := by decide +kernel
theorem d6_4 : decode prog_16_method_1_code 4 = .ok (.aload_n 0, 1) := by decide +kernel
theorem d6_5 : decode prog_16_method_1_code 5 = .ok (.aload_n 1, 1) := by decide +kernel
theorem d6_6 : decode prog_16_method_1_code 6 = .ok (.putfield 7, 3) := by decide +kernel
theorem d6_9 : decode prog_16_method_1_code 9 = .ok (.aload_n 0, 1) := by decide +kernel
theorem d6_10 : decode prog_16_method_1_code 10 = .ok (.aload_n 2, 1) := by decide +kernel
theorem d6_11 : decode prog_16_method_1_code 11 = .ok (.putfield 13, 3) := by decide +kernel
theorem d6_14 : decode prog_16_method_1_code 14 = .ok (.aload_n 0, 1) := by decide +kernel
theorem d6_15 : decode prog_16_method_1_code 15 = .ok (.aload_n 3, 1) := by decide +kernel
theorem d6_16 : decode prog_16_method_1_code 16 = .ok (.putfield 16, 3) := by decide +kernel
theorem d6_19 : decode prog_16_method_1_code 19 = .ok (.aload_n 0, 1) := by decide +kernel
theorem d6_20 : decode prog_16_method_1_code 20 = .ok (.aload 4, 2) := by decide +kernel
theorem d6_22 : decode prog_16_method_1_code 22 = .ok (.putfield 20, 3) := by decide +kernel
theorem d6_25 : decode prog_16_method_1_code 25 = .ok (.return_, 1) := by decide +kernel
theorem ef6 (m : MethodId) (r0 : Addr) (r1 : Addr) (r3 : Addr) (r4 : Addr) : entryFrame m #[(.ref r0), (.ref r1), .null, (.ref r3), (.ref r4)] 5 = mkF m 0 #[.val (.ref r0), .val (.ref r1), .val .null, .val (.ref r3), .val (.ref r4)] [] := by first | (simp [entryFrame, mkF, argsToLocals, Value.category]; done) | rfl
set_option maxRecDepth 65536 in
set_option maxHeartbeats 40000000 in
theorem rm6 (l : Launch) (Z : State) (a0 : Array Value) (hw : ∀ d ∈ tables_1, d.before a0 Z = true) (ws : List Jvm.Cond) (r0 : Addr) (r1 : Addr) (r3 : Addr) (r4 : Addr) (u_name : Value) (u_alias : Value) (u_kind : Value) (u_value : Value) (h0 : Heap) (n0 : Nat) (Z0 : n0 ≤ h0.size) (E_a : Exa Z h0 r0 "com/example/tremorgrid/tremorgrid/app/Arguments$Option") (F_name : Fld Z h0 r0 "com/example/tremorgrid/tremorgrid/app/Arguments$Option" "name" "Ljava/lang/String;" u_name) (F_alias : Fld Z h0 r0 "com/example/tremorgrid/tremorgrid/app/Arguments$Option" "alias" "Ljava/lang/String;" u_alias) (F_kind : Fld Z h0 r0 "com/example/tremorgrid/tremorgrid/app/Arguments$Option" "kind" "Lcom/example/tremorgrid/tremorgrid/app/Arguments$Kind;" u_kind) (F_value : Fld Z h0 r0 "com/example/tremorgrid/tremorgrid/app/Arguments$Option" "value" "Ljava/lang/String;" u_value) (g_a : n0 ≤ r0) :
    own_Met l (⟨"com/example/tremorgrid/tremorgrid/app/Arguments$Option", "<init>", "(Ljava/lang/String;Ljava/lang/String;Lcom/example/tremorgrid/tremorgrid/app/Arguments$Kind;Ljava/lang/String;)V"⟩ : MethodName) prog_16_method_1_code 5 none ({ frames := 2, cells := 0, slots := 0, locals := 24 } : Room) ws #[(.ref r0), (.ref r1), .null, (.ref r3), (.ref r4)] Z h0 0 0 (fun v h L => v = none ∧ Fr n0 L ∧ Keep h0 h [r0] ∧ Exa Z h r0 "com/example/tremorgrid/tremorgrid/app/Arguments$Option" ∧ Fld Z h r0 "com/example/tremorgrid/tremorgrid/app/Arguments$Option" "name" "Ljava/lang/String;" (.ref r1) ∧ Fld Z h r0 "com/example/tremorgrid/tremorgrid/app/Arguments$Option" "alias" "Ljava/lang/String;" .null ∧ Fld Z h r0 "com/example/tremorgrid/tremorgrid/app/Arguments$Option" "kind" "Lcom/example/tremorgrid/tremorgrid/app/Arguments$Kind;" (.ref r3) ∧ Fld Z h r0 "com/example/tremorgrid/tremorgrid/app/Arguments$Option" "value" "Ljava/lang/String;" (.ref r4)) := by
  refine own_met (plainFor_of_name pn3) ?_
  intro p e s m below meth c s₁ hx hby hml hown hnm hret hlk hZ e0 X0
  have hml : c.maxLocals = 5 := hml
  have N0 := Fr.nil n0
  have K0 := Keep.refl h0 [r0]
  refine own_go (fun _ k => castTop (ef6 m r0 r1 r3 r4) k) ?_
  show own_Fin p.tables e below _ (s₁.setTop (mkF m 0 #[.val (.ref r0), .val (.ref r1), .val .null, .val (.ref r3), .val (.ref r4)] []))
  refine own_go (fun _ k => XS.aloadN X0.here hx rfl (hb hby d6_0) rfl rfl k) ?_
  show own_Fin p.tables e below _ (s₁.setTop (mkF m 1 #[.val (.ref r0), .val (.ref r1), .val .null, .val (.ref r3), .val (.ref r4)] [(.ref r0)]))
  obtain ⟨_, T1, L1, X1, ⟨rfl, M1, e1⟩, st1⟩ := own_callC X0 hx hZ hown rfl (hw _ (List.mem_of_getElem? (i := 50) rfl)) (hw _ (List.mem_of_getElem? (i := 51) rfl)) (hw _ (List.mem_of_getElem? (i := 53) rfl)) (hw _ (List.mem_of_getElem? (i := 54) rfl)) (by decide) (W := 0) (rm4 l Z a0 hw [] r0 h0 n0 (Nat.le_trans Z0 K0.1) ) (by decide) (by decide) e0 (g := (mkF m 1 #[.val (.ref r0), .val (.ref r1), .val .null, .val (.ref r3), .val (.ref r4)] [(.ref r0)])) rfl (by rw [hml]; rfl) (argsL := []) (rest := []) rfl (lenOf pd6 rfl) rfl (by show 2 * 0 + _ ≤ _; exact Nat.le_of_eq rfl) (hb hby d6_1) (by decide) (by decide)
  have N1 := Fr.app N0 M1
  refine own_go st1 ?_
  show own_Fin p.tables e below _ (T1.setTop (mkF m 4 #[.val (.ref r0), .val (.ref r1), .val .null, .val (.ref r3), .val (.ref r4)] []))
  refine own_go (fun _ k => XS.aloadN X1.here hx rfl (hb hby d6_4) rfl rfl k) ?_
  show own_Fin p.tables e below _ (T1.setTop (mkF m 5 #[.val (.ref r0), .val (.ref r1), .val .null, .val (.ref r3), .val (.ref r4)] [(.ref r0)]))
  refine own_go (fun _ k => XS.aloadN X1.here hx rfl (hb hby d6_5) rfl rfl k) ?_
  show own_Fin p.tables e below _ (T1.setTop (mkF m 6 #[.val (.ref r0), .val (.ref r1), .val .null, .val (.ref r3), .val (.ref r4)] [(.ref r1), (.ref r0)]))
  obtain ⟨T2, h2, X2, e2, W2, st2⟩ := putF X1 hx hZ hown (host := "") (Or.inl (hw _ (List.mem_of_getElem? (i := 56) rfl))) Via.refl e1 F_name E_a (Or.inr ⟨(hw _ (List.mem_of_getElem? (i := 57) rfl)), rfl, hnm⟩) (hw _ (List.mem_of_getElem? (i := 45) rfl)) (ty := (.object "java/lang/String")) (by decide) rfl rfl (g := (mkF m 6 #[.val (.ref r0), .val (.ref r1), .val .null, .val (.ref r3), .val (.ref r4)] [(.ref r1), (.ref r0)])) rfl rfl (hb hby d6_6)
  have K2 := K0.wr W2 (Or.inl (List.mem_of_getElem? (i := 0) rfl))
  have N2 := Fr.snoc X2 N1 g_a
  have Er0_2 := E_a.wr W2
  have Fr0_name_2 := F_name.same W2
  have Fr0_alias_2 := F_alias.other W2 (Or.inr (slot_ne (Or.inr (hw _ (List.mem_of_getElem? (i := 59) rfl))) (Or.inr (hw _ (List.mem_of_getElem? (i := 57) rfl))) (by decide) (t := (.object "java/lang/String")) (t' := (.object "java/lang/String")) (by decide) (by decide)))
  have Fr0_kind_2 := F_kind.other W2 (Or.inr (slot_ne (Or.inr (hw _ (List.mem_of_getElem? (i := 61) rfl))) (Or.inr (hw _ (List.mem_of_getElem? (i := 57) rfl))) (by decide) (t := (.object "com/example/tremorgrid/tremorgrid/app/Arguments$Kind")) (t' := (.object "java/lang/String")) (by decide) (by decide)))
  have Fr0_value_2 := F_value.other W2 (Or.inr (slot_ne (Or.inr (hw _ (List.mem_of_getElem? (i := 63) rfl))) (Or.inr (hw _ (List.mem_of_getElem? (i := 57) rfl))) (by decide) (t := (.object "java/lang/String")) (t' := (.object "java/lang/String")) (by decide) (by decide)))
  refine own_go st2 ?_
  show own_Fin p.tables e below _ (T2.setTop (mkF m 9 #[.val (.ref r0), .val (.ref r1), .val .null, .val (.ref r3), .val (.ref r4)] []))
  refine own_go (fun _ k => XS.aloadN X2.here hx rfl (hb hby d6_9) rfl rfl k) ?_
  show own_Fin p.tables e below _ (T2.setTop (mkF m 10 #[.val (.ref r0), .val (.ref r1), .val .null, .val (.ref r3), .val (.ref r4)] [(.ref r0)]))
  refine own_go (fun _ k => XS.aloadN X2.here hx rfl (hb hby d6_10) rfl rfl k) ?_
  show own_Fin p.tables e below _ (T2.setTop (mkF m 11 #[.val (.ref r0), .val (.ref r1), .val .null, .val (.ref r3), .val (.ref r4)] [.null, (.ref r0)]))
  obtain ⟨T3, h3, X3, e3, W3, st3⟩ := putF X2 hx hZ hown (host := "") (Or.inl (hw _ (List.mem_of_getElem? (i := 58) rfl))) Via.refl e2 Fr0_alias_2 Er0_2 (Or.inr ⟨(hw _ (List.mem_of_getElem? (i := 59) rfl)), rfl, hnm⟩) (hw _ (List.mem_of_getElem? (i := 45) rfl)) (ty := (.object "java/lang/String")) (by decide) rfl rfl (g := (mkF m 11 #[.val (.ref r0), .val (.ref r1), .val .null, .val (.ref r3), .val (.ref r4)] [.null, (.ref r0)])) rfl rfl (hb hby d6_11)
  have K3 := K2.wr W3 (Or.inl (List.mem_of_getElem? (i := 0) rfl))
  have N3 := Fr.snoc X3 N2 g_a
  have Er0_3 := Er0_2.wr W3
  have Fr0_name_3 := Fr0_name_2.other W3 (Or.inr (slot_ne (Or.inr (hw _ (List.mem_of_getElem? (i := 57) rfl))) (Or.inr (hw _ (List.mem_of_getElem? (i := 59) rfl))) (by decide) (t := (.object "java/lang/String")) (t' := (.object "java/lang/String")) (by decide) (by decide)))
  have Fr0_alias_3 := Fr0_alias_2.same W3
  have Fr0_kind_3 := Fr0_kind_2.other W3 (Or.inr (slot_ne (Or.inr (hw _ (List.mem_of_getElem? (i := 61) rfl))) (Or.inr (hw _ (List.mem_of_getElem? (i := 59) rfl))) (by decide) (t := (.object "com/example/tremorgrid/tremorgrid/app/Arguments$Kind")) (t' := (.object "java/lang/String")) (by decide) (by decide)))
  have Fr0_value_3 := Fr0_value_2.other W3 (Or.inr (slot_ne (Or.inr (hw _ (List.mem_of_getElem? (i := 63) rfl))) (Or.inr (hw _ (List.mem_of_getElem? (i := 59) rfl))) (by decide) (t := (.object "java/lang/String")) (t' := (.object "java/lang/String")) (by decide) (by decide)))
  refine own_go st3 ?_
  show own_Fin p.tables e below _ (T3.setTop (mkF m 14 #[.val (.ref r0), .val (.ref r1), .val .null, .val (.ref r3), .val (.ref r4)] []))
  refine own_go (fun _ k => XS.aloadN X3.here hx rfl (hb hby d6_14) rfl rfl k) ?_
  show own_Fin p.tables e below _ (T3.setTop (mkF m 15 #[.val (.ref r0), .val (.ref r1), .val .null, .val (.ref r3), .val (.ref r4)] [(.ref r0)]))
  refine own_go (fun _ k => XS.aloadN X3.here hx rfl (hb hby d6_15) rfl rfl k) ?_
  show own_Fin p.tables e below _ (T3.setTop (mkF m 16 #[.val (.ref r0), .val (.ref r1), .val .null, .val (.ref r3), .val (.ref r4)] [(.ref r3), (.ref r0)]))
  obtain ⟨T4, h4, X4, e4, W4, st4⟩ := putF X3 hx hZ hown (host := "") (Or.inl (hw _ (List.mem_of_getElem? (i := 60) rfl))) Via.refl e3 Fr0_kind_3 Er0_3 (Or.inr ⟨(hw _ (List.mem_of_getElem? (i := 61) rfl)), rfl, hnm⟩) (hw _ (List.mem_of_getElem? (i := 45) rfl)) (ty := (.object "com/example/tremorgrid/tremorgrid/app/Arguments$Kind")) (by decide) rfl rfl (g := (mkF m 16 #[.val (.ref r0), .val (.ref r1), .val .null, .val (.ref r3), .val (.ref r4)] [(.ref r3), (.ref r0)])) rfl rfl (hb hby d6_16)
  have K4 := K3.wr W4 (Or.inl (List.mem_of_getElem? (i := 0) rfl))
  have N4 := Fr.snoc X4 N3 g_a
  have Er0_4 := Er0_3.wr W4
  have Fr0_name_4 := Fr0_name_3.other W4 (Or.inr (slot_ne (Or.inr (hw _ (List.mem_of_getElem? (i := 57) rfl))) (Or.inr (hw _ (List.mem_of_getElem? (i := 61) rfl))) (by decide) (t := (.object "java/lang/String")) (t' := (.object "com/example/tremorgrid/tremorgrid/app/Arguments$Kind")) (by decide) (by decide)))
  have Fr0_alias_4 := Fr0_alias_3.other W4 (Or.inr (slot_ne (Or.inr (hw _ (List.mem_of_getElem? (i := 59) rfl))) (Or.inr (hw _ (List.mem_of_getElem? (i := 61) rfl))) (by decide) (t := (.object "java/lang/String")) (t' := (.object "com/example/tremorgrid/tremorgrid/app/Arguments$Kind")) (by decide) (by decide)))
  have Fr0_kind_4 := Fr0_kind_3.same W4
  have Fr0_value_4 := Fr0_value_3.other W4 (Or.inr (slot_ne (Or.inr (hw _ (List.mem_of_getElem? (i := 63) rfl))) (Or.inr (hw _ (List.mem_of_getElem? (i := 61) rfl))) (by decide) (t := (.object "java/lang/String")) (t' := (.object "com/example/tremorgrid/tremorgrid/app/Arguments$Kind")) (by decide) (by decide)))
  refine own_go st4 ?_
  show own_Fin p.tables e below _ (T4.setTop (mkF m 19 #[.val (.ref r0), .val (.ref r1), .val .null, .val (.ref r3), .val (.ref r4)] []))
  refine own_go (fun _ k => XS.aloadN X4.here hx rfl (hb hby d6_19) rfl rfl k) ?_
  show own_Fin p.tables e below _ (T4.setTop (mkF m 20 #[.val (.ref r0), .val (.ref r1), .val .null, .val (.ref r3), .val (.ref r4)] [(.ref r0)]))
  refine own_go (fun _ k => XS.aload X4.here hx rfl (hb hby d6_20) rfl rfl k) ?_
  show own_Fin p.tables e below _ (T4.setTop (mkF m 22 #[.val (.ref r0), .val (.ref r1), .val .null, .val (.ref r3), .val (.ref r4)] [(.ref r4), (.ref r0)]))
  obtain ⟨T5, h5, X5, e5, W5, st5⟩ := putF X4 hx hZ hown (host := "") (Or.inl (hw _ (List.mem_of_getElem? (i := 62) rfl))) Via.refl e4 Fr0_value_4 Er0_4 (Or.inr ⟨(hw _ (List.mem_of_getElem? (i := 63) rfl)), rfl, hnm⟩) (hw _ (List.mem_of_getElem? (i := 45) rfl)) (ty := (.object "java/lang/String")) (by decide) rfl rfl (g := (mkF m 22 #[.val (.ref r0), .val (.ref r1), .val .null, .val (.ref r3), .val (.ref r4)] [(.ref r4), (.ref r0)])) rfl rfl (hb hby d6_22)
  have K5 := K4.wr W5 (Or.inl (List.mem_of_getElem? (i := 0) rfl))
  have N5 := Fr.snoc X5 N4 g_a
  have Er0_5 := Er0_4.wr W5
  have Fr0_name_5 := Fr0_name_4.other W5 (Or.inr (slot_ne (Or.inr (hw _ (List.mem_of_getElem? (i := 57) rfl))) (Or.inr (hw _ (List.mem_of_getElem? (i := 63) rfl))) (by decide) (t := (.object "java/lang/String")) (t' := (.object "java/lang/String")) (by decide) (by decide)))
  have Fr0_alias_5 := Fr0_alias_4.other W5 (Or.inr (slot_ne (Or.inr (hw _ (List.mem_of_getElem? (i := 59) rfl))) (Or.inr (hw _ (List.mem_of_getElem? (i := 63) rfl))) (by decide) (t := (.object "java/lang/String")) (t' := (.object "java/lang/String")) (by decide) (by decide)))
  have Fr0_kind_5 := Fr0_kind_4.other W5 (Or.inr (slot_ne (Or.inr (hw _ (List.mem_of_getElem? (i := 61) rfl))) (Or.inr (hw _ (List.mem_of_getElem? (i := 63) rfl))) (by decide) (t := (.object "com/example/tremorgrid/tremorgrid/app/Arguments$Kind")) (t' := (.object "java/lang/String")) (by decide) (by decide)))
  have Fr0_value_5 := Fr0_value_4.same W5
  refine own_go st5 ?_
  show own_Fin p.tables e below _ (T5.setTop (mkF m 25 #[.val (.ref r0), .val (.ref r1), .val .null, .val (.ref r3), .val (.ref r4)] []))
  refine own_retV X5 hx hlk hret (hb hby d6_25) ?_ (by decide) (by decide)
  show _ ∧ _ ∧ Keep h0 T5.heap _ ∧ _
  rw [e5]
  exact ⟨rfl, N5, K5, Er0_5, Fr0_name_5, Fr0_alias_5, Fr0_kind_5, Fr0_value_5⟩
theorem d7_0 : decode prog_16_method_4_code 0 = .ok (.aload_n 0, 1) := by decide +kernel
theorem d7_1 : decode prog_16_method_4_code 1 = .ok (.getfield 7, 3) := by decide +kernel
theorem d7_4 : decode prog_16_method_4_code 4 = .ok (.aload_n 1, 1) := by decide +kernel
theorem d7_5 : decode prog_16_method_4_code 5 = .ok (.invokevirtual 37, 3) := by decide +kernel
theorem d7_8 : decode prog_16_method_4_code 8 = .ok (.ifCond .ne 14, 3) := by decide +kernel
theorem d7_11 : decode prog_16_method_4_code 11 = .ok (.aload_n 1, 1) := by decide +kernel
theorem d7_12 : decode prog_16_method_4_code 12 = .ok (.aload_n 0, 1) := by decide +kernel
theorem d7_13 : decode prog_16_method_4_code 13 = .ok (.getfield 13, 3) := by decide +kernel
theorem d7_16 : decode prog_16_method_4_code 16 = .ok (.invokevirtual 37, 3) := by decide +kernel
theorem d7_19 : decode prog_16_method_4_code 19 = .ok (.ifCond .eq 7, 3) := by decide +kernel
theorem d7_22 : decode prog_16_method_4_code 22 = .ok (.iconst 1, 1) := by decide +kernel
theorem d7_23 : decode prog_16_method_4_code 23 = .ok (.goto 4, 3) := by decide +kernel
theorem d7_26 : decode prog_16_method_4_code 26 = .ok (.iconst 0, 1) := by decide +kernel
theorem d7_27 : decode prog_16_method_4_code 27 = .ok (.ireturn, 1) := by decide +kernel
theorem pd8 : parseMethodDescriptor "(Ljava/lang/String;)Z" = some ⟨[(.object "java/lang/String")], some .boolean⟩ := by decide +kernel
theorem ef7 (m : MethodId) (r0 : Addr) (r3 : Addr) : entryFrame m #[(.ref r0), (.ref r3)] 2 = mkF m 0 #[.val (.ref r0), .val (.ref r3)] [] := by first | (simp [entryFrame, mkF, argsToLocals, Value.category]; done) | rfl
def f7 (c1 : List Int32) (c2 : List Int32) (c3 : List Int32) : Int32 := (if (own_eq c1 c3) = (0 : Int32) then (if (own_eq c3 c2) = (0 : Int32) then (0 : Int32) else (1 : Int32)) else (1 : Int32))
set_option maxRecDepth 65536 in
set_option maxHeartbeats 40000000 in
theorem rm7 (l : Launch) (Z : State) (a0 : Array Value) (hw : ∀ d ∈ tables_1, d.before a0 Z = true) (ws : List Jvm.Cond) (r0 : Addr) (r3 : Addr) (h0 : Heap) (n0 : Nat) (Z0 : n0 ≤ h0.size) (c1 : List Int32) (c2 : List Int32) (c3 : List Int32) (r1 : Addr) (r2 : Addr) (B1 : Nat) (B2 : Nat) (B3 : Nat) (F1 : Fld Z h0 r0 "com/example/tremorgrid/tremorgrid/app/Arguments$Option" "name" "Ljava/lang/String;" (.ref r1)) (F2 : Fld Z h0 r0 "com/example/tremorgrid/tremorgrid/app/Arguments$Option" "alias" "Ljava/lang/String;" (.ref r2)) (S1 : own_Str Z h0 r1 c1 B1) (S2 : own_Str Z h0 r2 c2 B2) (S3 : own_Str Z h0 r3 c3 B3) (ic : Int32) (SC : Sta Z Z.heap "java/lang/String" "COMPACT_STRINGS" "Z" (.int ic)) (hz : ¬ ic = 0) (O0 : Old Z n0 h0) :
    own_Met l (⟨"com/example/tremorgrid/tremorgrid/app/Arguments$Option", "isGivenBy", "(Ljava/lang/String;)Z"⟩ : MethodName) prog_16_method_4_code 2 (some .boolean) ({ frames := 2, cells := 0, slots := 0, locals := 28 } : Room) ws #[(.ref r0), (.ref r3)] Z h0 0 0 (own_QP (some (.int (f7 c1 c2 c3))) h0 n0) := by
  refine own_met (plainFor_of_name pn3) ?_
  intro p e s m below meth c s₁ hx hby hml hown hnm hret hlk hZ e0 X0
  have hml : c.maxLocals = 2 := hml
  have N0 := Fr.nil n0
  have K0 := Keep.refl h0 []
  have hwe : ∀ d ∈ StrChars.Road.wordsEq, d.before a0 Z = true := fun d hd => hw d ((by decide +kernel : ∀ d ∈ StrChars.Road.wordsEq, d ∈ tables_1) d hd)
  refine own_go (fun _ k => castTop (ef7 m r0 r3) k) ?_
  show own_Fin p.tables e below _ (s₁.setTop (mkF m 0 #[.val (.ref r0), .val (.ref r3)] []))
  refine own_go (fun _ k => XS.aloadN X0.here hx rfl (hb hby d7_0) rfl rfl k) ?_
  show own_Fin p.tables e below _ (s₁.setTop (mkF m 1 #[.val (.ref r0), .val (.ref r3)] [(.ref r0)]))
  obtain ⟨T1, X1, e1, st1⟩ := getF X0 hx hZ hown (host := "") (Or.inl (hw _ (List.mem_of_getElem? (i := 56) rfl))) Via.refl e0 F1 (g := (mkF m 1 #[.val (.ref r0), .val (.ref r3)] [(.ref r0)])) rfl rfl (hb hby d7_1)
  refine own_go st1 ?_
  show own_Fin p.tables e below _ (T1.setTop (mkF m 4 #[.val (.ref r0), .val (.ref r3)] [(.ref r1)]))
  refine own_go (fun _ k => XS.aloadN X1.here hx rfl (hb hby d7_4) rfl rfl k) ?_
  show own_Fin p.tables e below _ (T1.setTop (mkF m 5 #[.val (.ref r0), .val (.ref r3)] [(.ref r3), (.ref r1)]))
  obtain ⟨Ex2, cx2, -, tx2, kx2, -, Cx2, Vx2, Ax2⟩ := id S1
  obtain ⟨Ey2, cy2, -, ty2, ky2, -, Cy2, Vy2, Ay2⟩ := id S3
  obtain ⟨v2, T2, L2, X2, ⟨hv2, hL2, e2⟩, st2⟩ := own_callVB X1 hx hZ hown (hw _ (List.mem_of_getElem? (i := 72) rfl)) (hw _ (List.mem_of_getElem? (i := 73) rfl)) (hw _ (List.mem_of_getElem? (i := 75) rfl)) (hw _ (List.mem_of_getElem? (i := 74) rfl)) (by decide) (W := 0) (kc := 0) (kn := 0) (Qb := fun v U L => (((v = some (.int 1) ∧ c1 = c3) ∨ (v = some (.int 0) ∧ ¬ c1 = c3)) ∧ L = [] ∧ U.heap = h0)) (StrChars.Road.eqW (W := 0) hZ hwe (kI := 4) (hw _ (List.mem_of_getElem? (i := 6) rfl)) Ex2 Vx2 Cx2 Ax2 (StrChars.Road.codOf rfl (fun c hc => (cx2.1 c hc).2)) (own_up cx2.1) cx2.2 Ey2 Vy2 Cy2 Ay2 (StrChars.Road.codOf rfl (fun c hc => (cy2.1 c hc).2)) (own_up cy2.1) cy2.2 (SC.ext O0.2) hz (by decide) (by decide)) e1 Ex2 (g := (mkF m 5 #[.val (.ref r0), .val (.ref r3)] [(.ref r3), (.ref r1)])) rfl (by rw [hml]; rfl) (argsL := [(.ref r3)]) (rest := []) rfl (lenOf pd2 rfl) rfl (by show 2 * 0 + _ ≤ _; exact Nat.le_of_eq rfl) (hb hby d7_5) (by decide) (by decide)
  obtain rfl := own_eq_of hv2
  have N2 := Fr.app N0 (hL2 ▸ Fr.nil n0)
  refine own_go st2 ?_
  show own_Fin p.tables e below _ (T2.setTop (mkF m 8 #[.val (.ref r0), .val (.ref r3)] [(.int (own_eq c1 c3))]))
  by_cases hc3 : (own_eq c1 c3) = (0 : Int32)
  · refine own_go (fun _ k => XS.ifNo X2.here hx rfl (hb hby d7_8) rfl (XT.i0_ne_f hc3) k) ?_
    show own_Fin p.tables e below _ (T2.setTop (mkF m 11 #[.val (.ref r0), .val (.ref r3)] []))
    refine own_go (fun _ k => XS.aloadN X2.here hx rfl (hb hby d7_11) rfl rfl k) ?_
    show own_Fin p.tables e below _ (T2.setTop (mkF m 12 #[.val (.ref r0), .val (.ref r3)] [(.ref r3)]))
    refine own_go (fun _ k => XS.aloadN X2.here hx rfl (hb hby d7_12) rfl rfl k) ?_
    show own_Fin p.tables e below _ (T2.setTop (mkF m 13 #[.val (.ref r0), .val (.ref r3)] [(.ref r0), (.ref r3)]))
    obtain ⟨T4, X4, e4, st4⟩ := getF X2 hx hZ hown (host := "") (Or.inl (hw _ (List.mem_of_getElem? (i := 58) rfl))) Via.refl e2 F2 (g := (mkF m 13 #[.val (.ref r0), .val (.ref r3)] [(.ref r0), (.ref r3)])) rfl rfl (hb hby d7_13)
    refine own_go st4 ?_
    show own_Fin p.tables e below _ (T4.setTop (mkF m 16 #[.val (.ref r0), .val (.ref r3)] [(.ref r2), (.ref r3)]))
    obtain ⟨Ex5, cx5, -, tx5, kx5, -, Cx5, Vx5, Ax5⟩ := id S3
    obtain ⟨Ey5, cy5, -, ty5, ky5, -, Cy5, Vy5, Ay5⟩ := id S2
    obtain ⟨v5, T5, L5, X5, ⟨hv5, hL5, e5⟩, st5⟩ := own_callVB X4 hx hZ hown (hw _ (List.mem_of_getElem? (i := 72) rfl)) (hw _ (List.mem_of_getElem? (i := 73) rfl)) (hw _ (List.mem_of_getElem? (i := 75) rfl)) (hw _ (List.mem_of_getElem? (i := 74) rfl)) (by decide) (W := 0) (kc := 0) (kn := 0) (Qb := fun v U L => (((v = some (.int 1) ∧ c3 = c2) ∨ (v = some (.int 0) ∧ ¬ c3 = c2)) ∧ L = [] ∧ U.heap = h0)) (StrChars.Road.eqW (W := 0) hZ hwe (kI := 4) (hw _ (List.mem_of_getElem? (i := 6) rfl)) Ex5 Vx5 Cx5 Ax5 (StrChars.Road.codOf rfl (fun c hc => (cx5.1 c hc).2)) (own_up cx5.1) cx5.2 Ey5 Vy5 Cy5 Ay5 (StrChars.Road.codOf rfl (fun c hc => (cy5.1 c hc).2)) (own_up cy5.1) cy5.2 (SC.ext O0.2) hz (by decide) (by decide)) e4 Ex5 (g := (mkF m 16 #[.val (.ref r0), .val (.ref r3)] [(.ref r2), (.ref r3)])) rfl (by rw [hml]; rfl) (argsL := [(.ref r2)]) (rest := []) rfl (lenOf pd2 rfl) rfl (by show 2 * 0 + _ ≤ _; exact Nat.le_of_eq rfl) (hb hby d7_16) (by decide) (by decide)
    obtain rfl := own_eq_of hv5
    have N5 := Fr.app N2 (hL5 ▸ Fr.nil n0)
    refine own_go st5 ?_
    show own_Fin p.tables e below _ (T5.setTop (mkF m 19 #[.val (.ref r0), .val (.ref r3)] [(.int (own_eq c3 c2))]))
    by_cases hc6 : (own_eq c3 c2) = (0 : Int32)
    · refine own_go (fun _ k => XS.ifYes X5.here hx rfl (pc0 := 19) (pc' := 26) rfl (hb hby d7_19) rfl (XT.i0_eq_t hc6) (by decide) (by decide) k) ?_
      show own_Fin p.tables e below _ (T5.setTop (mkF m 26 #[.val (.ref r0), .val (.ref r3)] []))
      refine own_go (fun _ k => XT.iconstV X5.here hx rfl (0 : Int32) (hb hby d7_26) (by decide) k) ?_
      show own_Fin p.tables e below _ (T5.setTop (mkF m 27 #[.val (.ref r0), .val (.ref r3)] [(.int (0 : Int32))]))
      refine own_retN X5 hx hlk (t := .boolean) hret (by simp) (hb hby d7_27) ?_ (by decide) (by decide)
      exact ⟨by rw [show f7 c1 c2 c3 = (0 : Int32) from by simp only [f7, if_pos hc3, if_pos hc6]] <;> rfl, N5, e5⟩
    · refine own_go (fun _ k => XS.ifNo X5.here hx rfl (hb hby d7_19) rfl (XT.i0_eq_f hc6) k) ?_
      show own_Fin p.tables e below _ (T5.setTop (mkF m 22 #[.val (.ref r0), .val (.ref r3)] []))
      refine own_go (fun _ k => XT.iconstV X5.here hx rfl (1 : Int32) (hb hby d7_22) (by decide) k) ?_
      show own_Fin p.tables e below _ (T5.setTop (mkF m 23 #[.val (.ref r0), .val (.ref r3)] [(.int (1 : Int32))]))
      refine own_go (fun _ k => XS.goto X5.here hx rfl (pc0 := 23) (pc' := 27) rfl (hb hby d7_23) (by decide) (by decide) k) ?_
      show own_Fin p.tables e below _ (T5.setTop (mkF m 27 #[.val (.ref r0), .val (.ref r3)] [(.int (1 : Int32))]))
      refine own_retN X5 hx hlk (t := .boolean) hret (by simp) (hb hby d7_27) ?_ (by decide) (by decide)
      exact ⟨by rw [show f7 c1 c2 c3 = (1 : Int32) from by simp only [f7, if_pos hc3, if_neg hc6]] <;> rfl, N5, e5⟩
  · refine own_go (fun _ k => XS.ifYes X2.here hx rfl (pc0 := 8) (pc' := 22) rfl (hb hby d7_8) rfl (XT.i0_ne_t hc3) (by decide) (by decide) k) ?_
    show own_Fin p.tables e below _ (T2.setTop (mkF m 22 #[.val (.ref r0), .val (.ref r3)] []))
    refine own_go (fun _ k => XT.iconstV X2.here hx rfl (1 : Int32) (hb hby d7_22) (by decide) k) ?_
    show own_Fin p.tables e below _ (T2.setTop (mkF m 23 #[.val (.ref r0), .val (.ref r3)] [(.int (1 : Int32))]))
    refine own_go (fun _ k => XS.goto X2.here hx rfl (pc0 := 23) (pc' := 27) rfl (hb hby d7_23) (by decide) (by decide) k) ?_
    show own_Fin p.tables e below _ (T2.setTop (mkF m 27 #[.val (.ref r0), .val (.ref r3)] [(.int (1 : Int32))]))
    refine own_retN X2 hx hlk (t := .boolean) hret (by simp) (hb hby d7_27) ?_ (by decide) (by decide)
    exact ⟨by rw [show f7 c1 c2 c3 = (1 : Int32) from by simp only [f7, if_neg hc3]] <;> rfl, N2, e2⟩
theorem d8_0 : decode prog_16_method_4_code 0 = .ok (.aload_n 0, 1) := by decide +kernel
theorem d8_1 : decode prog_16_method_4_code 1 = .ok (.getfield 7, 3) := by decide +kernel
theorem d8_4 : decode prog_16_method_4_code 4 = .ok (.aload_n 1, 1) := by decide +kernel
theorem d8_5 : decode prog_16_method_4_code 5 = .ok (.invokevirtual 37, 3) := by decide +kernel
theorem d8_8 : decode prog_16_method_4_code 8 = .ok (.ifCond .ne 14, 3) := by decide +kernel
theorem d8_11 : decode prog_16_method_4_code 11 = .ok (.aload_n 1, 1) := by decide +kernel
theorem d8_12 : decode prog_16_method_4_code 12 = .ok (.aload_n 0, 1) := by decide +kernel
theorem d8_13 : decode prog_16_method_4_code 13 = .ok (.getfield 13, 3) := by decide +kernel
theorem d8_16 : decode prog_16_method_4_code 16 = .ok (.invokevirtual 37, 3) := by decide +kernel
theorem d8_19 : decode prog_16_method_4_code 19 = .ok (.ifCond .eq 7, 3) := by decide +kernel
theorem d8_22 : decode prog_16_method_4_code 22 = .ok (.iconst 1, 1) := by decide +kernel
theorem d8_23 : decode prog_16_method_4_code 23 = .ok (.goto 4, 3) := by decide +kernel
theorem d8_26 : decode prog_16_method_4_code 26 = .ok (.iconst 0, 1) := by decide +kernel
theorem d8_27 : decode prog_16_method_4_code 27 = .ok (.ireturn, 1) := by decide +kernel
theorem ef8 (m : MethodId) (r0 : Addr) (r3 : Addr) : entryFrame m #[(.ref r0), (.ref r3)] 2 = mkF m 0 #[.val (.ref r0), .val (.ref r3)] [] := by first | (simp [entryFrame, mkF, argsToLocals, Value.category]; done) | rfl
def f8 (c1 : List Int32) (c3 : List Int32) : Int32 := (if (own_eq c1 c3) = (0 : Int32) then (if (fN ) = (0 : Int32) then (0 : Int32) else (1 : Int32)) else (1 : Int32))
set_option maxRecDepth 65536 in
set_option maxHeartbeats 40000000 in
theorem rm8 (l : Launch) (Z : State) (a0 : Array Value) (hw : ∀ d ∈ tables_1, d.before a0 Z = true) (ws : List Jvm.Cond) (r0 : Addr) (r3 : Addr) (h0 : Heap) (n0 : Nat) (Z0 : n0 ≤ h0.size) (c1 : List Int32) (c3 : List Int32) (r1 : Addr) (B1 : Nat) (B3 : Nat) (F1 : Fld Z h0 r0 "com/example/tremorgrid/tremorgrid/app/Arguments$Option" "name" "Ljava/lang/String;" (.ref r1)) (F2 : Fld Z h0 r0 "com/example/tremorgrid/tremorgrid/app/Arguments$Option" "alias" "Ljava/lang/String;" .null) (S1 : own_Str Z h0 r1 c1 B1) (S3 : own_Str Z h0 r3 c3 B3) (ic : Int32) (SC : Sta Z Z.heap "java/lang/String" "COMPACT_STRINGS" "Z" (.int ic)) (hz : ¬ ic = 0) (O0 : Old Z n0 h0) :
    own_Met l (⟨"com/example/tremorgrid/tremorgrid/app/Arguments$Option", "isGivenBy", "(Ljava/lang/String;)Z"⟩ : MethodName) prog_16_method_4_code 2 (some .boolean) ({ frames := 2, cells := 0, slots := 0, locals := 28 } : Room) ws #[(.ref r0), (.ref r3)] Z h0 0 0 (own_QP (some (.int (f8 c1 c3))) h0 n0) := by
  refine own_met (plainFor_of_name pn3) ?_
  intro p e s m below meth c s₁ hx hby hml hown hnm hret hlk hZ e0 X0
  have hml : c.maxLocals = 2 := hml
  have N0 := Fr.nil n0
  have K0 := Keep.refl h0 []
  have hwe : ∀ d ∈ StrChars.Road.wordsEq, d.before a0 Z = true := fun d hd => hw d ((by decide +kernel : ∀ d ∈ StrChars.Road.wordsEq, d ∈ tables_1) d hd)
  refine own_go (fun _ k => castTop (ef8 m r0 r3) k) ?_
  show own_Fin p.tables e below _ (s₁.setTop (mkF m 0 #[.val (.ref r0), .val (.ref r3)] []))
  refine own_go (fun _ k => XS.aloadN X0.here hx rfl (hb hby d8_0) rfl rfl k) ?_
  show own_Fin p.tables e below _ (s₁.setTop (mkF m 1 #[.val (.ref r0), .val (.ref r3)] [(.ref r0)]))
  obtain ⟨T1, X1, e1, st1⟩ := getF X0 hx hZ hown (host := "") (Or.inl (hw _ (List.mem_of_getElem? (i := 56) rfl))) Via.refl e0 F1 (g := (mkF m 1 #[.val (.ref r0), .val (.ref r3)] [(.ref r0)])) rfl rfl (hb hby d8_1)
  refine own_go st1 ?_
  show own_Fin p.tables e below _ (T1.setTop (mkF m 4 #[.val (.ref r0), .val (.ref r3)] [(.ref r1)]))
  refine own_go (fun _ k => XS.aloadN X1.here hx rfl (hb hby d8_4) rfl rfl k) ?_
  show own_Fin p.tables e below _ (T1.setTop (mkF m 5 #[.val (.ref r0), .val (.ref r3)] [(.ref r3), (.ref r1)]))
  obtain ⟨Ex2, cx2, -, tx2, kx2, -, Cx2, Vx2, Ax2⟩ := id S1
  obtain ⟨Ey2, cy2, -, ty2, ky2, -, Cy2, Vy2, Ay2⟩ := id S3
  obtain ⟨v2, T2, L2, X2, ⟨hv2, hL2, e2⟩, st2⟩ := own_callVB X1 hx hZ hown (hw _ (List.mem_of_getElem? (i := 72) rfl)) (hw _ (List.mem_of_getElem? (i := 73) rfl)) (hw _ (List.mem_of_getElem? (i := 75) rfl)) (hw _ (List.mem_of_getElem? (i := 74) rfl)) (by decide) (W := 0) (kc := 0) (kn := 0) (Qb := fun v U L => (((v = some (.int 1) ∧ c1 = c3) ∨ (v = some (.int 0) ∧ ¬ c1 = c3)) ∧ L = [] ∧ U.heap = h0)) (StrChars.Road.eqW (W := 0) hZ hwe (kI := 4) (hw _ (List.mem_of_getElem? (i := 6) rfl)) Ex2 Vx2 Cx2 Ax2 (StrChars.Road.codOf rfl (fun c hc => (cx2.1 c hc).2)) (own_up cx2.1) cx2.2 Ey2 Vy2 Cy2 Ay2 (StrChars.Road.codOf rfl (fun c hc => (cy2.1 c hc).2)) (own_up cy2.1) cy2.2 (SC.ext O0.2) hz (by decide) (by decide)) e1 Ex2 (g := (mkF m 5 #[.val (.ref r0), .val (.ref r3)] [(.ref r3), (.ref r1)])) rfl (by rw [hml]; rfl) (argsL := [(.ref r3)]) (rest := []) rfl (lenOf pd2 rfl) rfl (by show 2 * 0 + _ ≤ _; exact Nat.le_of_eq rfl) (hb hby d8_5) (by decide) (by decide)
  obtain rfl := own_eq_of hv2
  have N2 := Fr.app N0 (hL2 ▸ Fr.nil n0)
  refine own_go st2 ?_
  show own_Fin p.tables e below _ (T2.setTop (mkF m 8 #[.val (.ref r0), .val (.ref r3)] [(.int (own_eq c1 c3))]))
  by_cases hc3 : (own_eq c1 c3) = (0 : Int32)
  · refine own_go (fun _ k => XS.ifNo X2.here hx rfl (hb hby d8_8) rfl (XT.i0_ne_f hc3) k) ?_
    show own_Fin p.tables e below _ (T2.setTop (mkF m 11 #[.val (.ref r0), .val (.ref r3)] []))
    refine own_go (fun _ k => XS.aloadN X2.here hx rfl (hb hby d8_11) rfl rfl k) ?_
    show own_Fin p.tables e below _ (T2.setTop (mkF m 12 #[.val (.ref r0), .val (.ref r3)] [(.ref r3)]))
    refine own_go (fun _ k => XS.aloadN X2.here hx rfl (hb hby d8_12) rfl rfl k) ?_
    show own_Fin p.tables e below _ (T2.setTop (mkF m 13 #[.val (.ref r0), .val (.ref r3)] [(.ref r0), (.ref r3)]))
    obtain ⟨T4, X4, e4, st4⟩ := getF X2 hx hZ hown (host := "") (Or.inl (hw _ (List.mem_of_getElem? (i := 58) rfl))) Via.refl e2 F2 (g := (mkF m 13 #[.val (.ref r0), .val (.ref r3)] [(.ref r0), (.ref r3)])) rfl rfl (hb hby d8_13)
    refine own_go st4 ?_
    show own_Fin p.tables e below _ (T4.setTop (mkF m 16 #[.val (.ref r0), .val (.ref r3)] [.null, (.ref r3)]))
    obtain ⟨_, T5, L5, X5, ⟨rfl, M5, e5⟩, st5⟩ := own_callV X4 hx hZ hown (hw _ (List.mem_of_getElem? (i := 72) rfl)) (hw _ (List.mem_of_getElem? (i := 73) rfl)) (hw _ (List.mem_of_getElem? (i := 75) rfl)) (hw _ (List.mem_of_getElem? (i := 74) rfl)) (hw _ (List.mem_of_getElem? (i := 7) rfl)) (hw _ (List.mem_of_getElem? (i := 76) rfl)) (by decide) (W := 0) (rmN l Z a0 hw [] r3 h0 n0 (Nat.le_trans Z0 K0.1) ) (by decide) (by decide) e4 S3.1 (g := (mkF m 16 #[.val (.ref r0), .val (.ref r3)] [.null, (.ref r3)])) rfl (by rw [hml]; rfl) (argsL := [.null]) (rest := []) rfl (lenOf pd2 rfl) rfl (by show 2 * 0 + _ ≤ _; exact Nat.le_of_eq rfl) (hb hby d8_16) (by decide) (by decide)
    have N5 := Fr.app N2 M5
    refine own_go st5 ?_
    show own_Fin p.tables e below _ (T5.setTop (mkF m 19 #[.val (.ref r0), .val (.ref r3)] [(.int (fN ))]))
    by_cases hc6 : (fN ) = (0 : Int32)
    · refine own_go (fun _ k => XS.ifYes X5.here hx rfl (pc0 := 19) (pc' := 26) rfl (hb hby d8_19) rfl (XT.i0_eq_t hc6) (by decide) (by decide) k) ?_
      show own_Fin p.tables e below _ (T5.setTop (mkF m 26 #[.val (.ref r0), .val (.ref r3)] []))
      refine own_go (fun _ k => XT.iconstV X5.here hx rfl (0 : Int32) (hb hby d8_26) (by decide) k) ?_
      show own_Fin p.tables e below _ (T5.setTop (mkF m 27 #[.val (.ref r0), .val (.ref r3)] [(.int (0 : Int32))]))
      refine own_retN X5 hx hlk (t := .boolean) hret (by simp) (hb hby d8_27) ?_ (by decide) (by decide)
      exact ⟨by rw [show f8 c1 c3 = (0 : Int32) from by simp only [f8, if_pos hc3, if_pos hc6]] <;> rfl, N5, e5⟩
    · refine own_go (fun _ k => XS.ifNo X5.here hx rfl (hb hby d8_19) rfl (XT.i0_eq_f hc6) k) ?_
      show own_Fin p.tables e below _ (T5.setTop (mkF m 22 #[.val (.ref r0), .val (.ref r3)] []))
      refine own_go (fun _ k => XT.iconstV X5.here hx rfl (1 : Int32) (hb hby d8_22) (by decide) k) ?_
      show own_Fin p.tables e below _ (T5.setTop (mkF m 23 #[.val (.ref r0), .val (.ref r3)] [(.int (1 : Int32))]))
      refine own_go (fun _ k => XS.goto X5.here hx rfl (pc0 := 23) (pc' := 27) rfl (hb hby d8_23) (by decide) (by decide) k) ?_
      show own_Fin p.tables e below _ (T5.setTop (mkF m 27 #[.val (.ref r0), .val (.ref r3)] [(.int (1 : Int32))]))
      refine own_retN X5 hx hlk (t := .boolean) hret (by simp) (hb hby d8_27) ?_ (by decide) (by decide)
      exact ⟨by rw [show f8 c1 c3 = (1 : Int32) from by simp only [f8, if_pos hc3, if_neg hc6]] <;> rfl, N5, e5⟩
  · refine own_go (fun _ k => XS.ifYes X2.here hx rfl (pc0 := 8) (pc' := 22) rfl (hb hby d8_8) rfl (XT.i0_ne_t hc3) (by decide) (by decide) k) ?_
    show own_Fin p.tables e below _ (T2.setTop (mkF m 22 #[.val (.ref r0), .val (.ref r3)] []))
    refine own_go (fun _ k => XT.iconstV X2.here hx rfl (1 : Int32) (hb hby d8_22) (by decide) k) ?_
    show own_Fin p.tables e below _ (T2.setTop (mkF m 23 #[.val (.ref r0), .val (.ref r3)] [(.int (1 : Int32))]))
    refine own_go (fun _ k => XS.goto X2.here hx rfl (pc0 := 23) (pc' := 27) rfl (hb hby d8_23) (by decide) (by decide) k) ?_
    show own_Fin p.tables e below _ (T2.setTop (mkF m 27 #[.val (.ref r0), .val (.ref r3)] [(.int (1 : Int32))]))
    refine own_retN X2 hx hlk (t := .boolean) hret (by simp) (hb hby d8_27) ?_ (by decide) (by decide)
    exact ⟨by rw [show f8 c1 c3 = (1 : Int32) from by simp only [f8, if_neg hc3]] <;> rfl, N2, e2⟩
theorem pd9 : parseMethodDescriptor "(IIIII)Z" = some ⟨[.int, .int, .int, .int, .int], some .boolean⟩ := by decide +kernel
theorem ef0 (m : MethodId) (i1 : Int32) (i2 : Int32) (i3 : Int32) (i4 : Int32) (i5 : Int32) : entryFrame m #[(.int i1), (.int i2), (.int i3), (.int i4), (.int i5)] maxLocals = mkF m 0 #[.val (.int i1), .val (.int i2), .val (.int i3), .val (.int i4), .val (.int i5), .unset, .unset, .unset, .unset, .unset, .unset, .unset, .unset] [] := by first | (simp [entryFrame, mkF, argsToLocals, Value.category, maxLocals]; done) | rfl
def own_na (i1 : Int32) (i2 : Int32) (i3 : Int32) (i4 : Int32) (i5 : Int32) : Int32 := (if (i2 &&& (4 : Int32)) = (0 : Int32) then (0 : Int32) else (1 : Int32))
def own_kd (rF : Addr) (rO : Addr) (rR : Addr) (i4 : Int32) : Addr := (if ((i4 &&& (2147483647 : Int32)) % (3 : Int32)) = (0 : Int32) then rF else (if ((i4 &&& (2147483647 : Int32)) % (3 : Int32)) = (1 : Int32) then rO else rR))
def own_exp (i1 : Int32) (i2 : Int32) (i3 : Int32) (i4 : Int32) (i5 : Int32) : Int32 := (if (f3 i1 i3) = (0 : Int32) then (if (f3 i2 i3) = (0 : Int32) then (0 : Int32) else (1 : Int32)) else (1 : Int32))
def own_kd_2 (rF : Addr) (rO : Addr) (rR : Addr) (i4 : Int32) : Addr := (if ((i4 &&& (2147483647 : Int32)) % (3 : Int32)) = (0 : Int32) then rF else (if ((i4 &&& (2147483647 : Int32)) % (3 : Int32)) = (1 : Int32) then rO else rR))
def own_exp_2 (i1 : Int32) (i2 : Int32) (i3 : Int32) (i4 : Int32) (i5 : Int32) : Int32 := (if (f3 i1 i3) = (0 : Int32) then (0 : Int32) else (1 : Int32))
def f0 (i1 : Int32) (i2 : Int32) (i3 : Int32) (i4 : Int32) (i5 : Int32) : Int32 := (if (own_na i1 i2 i3 i4 i5) = (0 : Int32) then (if (f7 (own_cs i1) (own_cs i2) (own_cs i3)) = (own_exp i1 i2 i3 i4 i5) then (1 : Int32) else (0 : Int32)) else (if (f8 (own_cs i1) (own_cs i3)) = (own_exp_2 i1 i2 i3 i4 i5) then (1 : Int32) else (0 : Int32)))
theorem own_c_eq (i k : Int32) : own_c i k = f1 i k := own_chr8 _
theorem own_same (i j : Int32) : f3 i j = own_eq (own_cs i) (own_cs j) := by
  unfold f3 own_eq own_cs
  simp only [own_c_eq]
  rcases own_len4 i with h | h | h | h <;> rcases own_len4 j with g | g | g | g <;> simp +decide only [h, g, if_true, if_false]
  all_goals
    by_cases e0 : f1 i 0 = f1 j 0 <;> by_cases e1 : f1 i 1 = f1 j 1 <;> by_cases e2 : f1 i 2 = f1 j 2 <;> simp [e0, e1, e2]
theorem own_eq_comm (a b : List Int32) : own_eq a b = own_eq b a := by
  unfold own_eq
  by_cases h : a = b
  · rw [if_pos h, if_pos h.symm]
  · rw [if_neg h, if_neg (fun q => h q.symm)]
theorem own_law (i1 i2 i3 i4 i5 : Int32) : f0 i1 i2 i3 i4 i5 = 1 := by
  unfold f0 f7 f8 own_exp own_exp_2 fN
  simp only [own_same, own_eq_comm (own_cs i3) (own_cs i2), if_true]
  split <;> rfl
set_option maxRecDepth 65536 in
set_option maxHeartbeats 40000000 in
theorem rm0 (l : Launch) (Z : State) (a0 : Array Value) (hw : ∀ d ∈ tables_1, d.before a0 Z = true) (ws : List Jvm.Cond) (i1 : Int32) (i2 : Int32) (i3 : Int32) (i4 : Int32) (i5 : Int32)  (h0 : Heap) (n0 : Nat) (Z0 : n0 ≤ h0.size) (rF : Addr) (rO : Addr) (rR : Addr) (SrF : Sta Z Z.heap "com/example/tremorgrid/tremorgrid/app/Arguments$Kind" "FLAG" "Lcom/example/tremorgrid/tremorgrid/app/Arguments$Kind;" (.ref rF)) (SrO : Sta Z Z.heap "com/example/tremorgrid/tremorgrid/app/Arguments$Kind" "ONCE" "Lcom/example/tremorgrid/tremorgrid/app/Arguments$Kind;" (.ref rO)) (SrR : Sta Z Z.heap "com/example/tremorgrid/tremorgrid/app/Arguments$Kind" "REPEATED" "Lcom/example/tremorgrid/tremorgrid/app/Arguments$Kind;" (.ref rR)) (ic : Int32) (SC : Sta Z Z.heap "java/lang/String" "COMPACT_STRINGS" "Z" (.int ic)) (hz : ¬ ic = 0) (O0 : Old Z n0 h0) (hheld : Jvm.Lit.constHeld Z "java/lang/String" 7) (hcw : Jvm.Lit.compactW.before a0 Z = true) :
    own_MetW l x code maxLocals ret room_1 ws #[(.int i1), (.int i2), (.int i3), (.int i4), (.int i5)] Z h0 (fun vm => own_LO Z vm h0 h0.size) 40 1216 (fun v h vm L => v = some (.int (f0 i1 i2 i3 i4 i5)) ∧ Fr n0 L) := by
  refine own_metW (plainFor_of_name pn1) ?_
  intro p e s m below meth c s₁ hx hby hml hown hnm hret hlk hZ hh0 e0 LO0 hS0 X0
  have hml : c.maxLocals = 13 := hml
  have N0 := Fr.nil n0
  have K0 := Keep.refl h0 []
  have hws : ∀ d ∈ StrChars.Road.words, d.before a0 Z = true := fun d hd => hw d ((by decide +kernel : ∀ d ∈ StrChars.Road.words, d ∈ tables_1) d hd)
  have hwe : ∀ d ∈ StrChars.Road.wordsEq, d.before a0 Z = true := fun d hd => hw d ((by decide +kernel : ∀ d ∈ StrChars.Road.wordsEq, d ∈ tables_1) d hd)
  refine own_go (fun _ k => castTop (ef0 m i1 i2 i3 i4 i5) k) ?_
  show own_Fin p.tables e below _ (s₁.setTop (mkF m 0 #[.val (.int i1), .val (.int i2), .val (.int i3), .val (.int i4), .val (.int i5), .unset, .unset, .unset, .unset, .unset, .unset, .unset, .unset] []))
  refine own_go (fun _ k => XS.iloadN X0.here hx rfl (hb hby at_0) rfl k) ?_
  show own_Fin p.tables e below _ (s₁.setTop (mkF m 1 #[.val (.int i1), .val (.int i2), .val (.int i3), .val (.int i4), .val (.int i5), .unset, .unset, .unset, .unset, .unset, .unset, .unset, .unset] [(.int i1)]))
  obtain ⟨_, T1, L1, X1, hZ1, hS1, ho1, ⟨a1, rfl, M1, KK1, q1, S1, LO1⟩, st1⟩ := own_callSW X0 hx hZ hS0 (Nat.zero_le _) hown (hw _ (List.mem_of_getElem? (i := 0) rfl)) (hw _ (List.mem_of_getElem? (i := 1) rfl)) (hw _ (List.mem_of_getElem? (i := 2) rfl)) (hw _ (List.mem_of_getElem? (i := 3) rfl)) (by decide) (W := 0) (rm2 l Z a0 hw [] i1 h0 n0 (Nat.le_trans Z0 K0.1) ic SC hz O0 hheld hcw) (fun vm hv => own_LO.warm (LO0.mono K0.1) hv) (by decide) (by decide) e0 (g := (mkF m 1 #[.val (.int i1), .val (.int i2), .val (.int i3), .val (.int i4), .val (.int i5), .unset, .unset, .unset, .unset, .unset, .unset, .unset, .unset] [(.int i1)])) rfl (by rw [hml]; rfl) (argsL := [(.int i1)]) (rest := []) rfl (lenOf pd4 rfl) rfl (by show 2 * 0 + _ ≤ _; exact Nat.le_of_eq rfl) (hb hby at_1) (by decide) (by decide)
  have N1 := Fr.app N0 M1
  have O_1 := O0.keep KK1 all0
  have K1 := K0.trans KK1 all0
  refine own_go st1 ?_
  show own_Fin p.tables e below _ (T1.setTop (mkF m 4 #[.val (.int i1), .val (.int i2), .val (.int i3), .val (.int i4), .val (.int i5), .unset, .unset, .unset, .unset, .unset, .unset, .unset, .unset] [(.ref a1)]))
  refine own_go (fun _ k => XS.astore X1.here hx rfl (hb hby at_4) rfl rfl (l' := #[.val (.int i1), .val (.int i2), .val (.int i3), .val (.int i4), .val (.int i5), .val (.ref a1), .unset, .unset, .unset, .unset, .unset, .unset, .unset]) rfl k) ?_
  show own_Fin p.tables e below _ (T1.setTop (mkF m 6 #[.val (.int i1), .val (.int i2), .val (.int i3), .val (.int i4), .val (.int i5), .val (.ref a1), .unset, .unset, .unset, .unset, .unset, .unset, .unset] []))
  obtain ⟨_, ⟨T2, L2, X2, N2, e2, rfl⟩, st2⟩ : own_Go p.tables e below (fun t => ∃ T' L', Stand p l e room_1 (s.setVm T1.vm) m #[(.int i1), (.int i2), (.int i3), (.int i4), (.int i5)] below meth c T' L' 4 10 ∧ Fr n0 L' ∧ T'.heap = T1.heap ∧ t = T'.setTop (mkF m 17 #[.val (.int i1), .val (.int i2), .val (.int i3), .val (.int i4), .val (.int i5), .val (.ref a1), .unset, .unset, .unset, .unset, .unset, .unset, .unset] [(.int (own_na i1 i2 i3 i4 i5))])) (T1.setTop (mkF m 6 #[.val (.int i1), .val (.int i2), .val (.int i3), .val (.int i4), .val (.int i5), .val (.ref a1), .unset, .unset, .unset, .unset, .unset, .unset, .unset] [])) := by
    refine own_on (fun _ k => XS.iloadN X1.here hx rfl (hb hby at_6) rfl k) ?_
    show own_Go p.tables e below _ (T1.setTop (mkF m 7 #[.val (.int i1), .val (.int i2), .val (.int i3), .val (.int i4), .val (.int i5), .val (.ref a1), .unset, .unset, .unset, .unset, .unset, .unset, .unset] [(.int i2)]))
    refine own_on (fun _ k => XT.iconstV X1.here hx rfl (4 : Int32) (hb hby at_7) (by decide) k) ?_
    show own_Go p.tables e below _ (T1.setTop (mkF m 8 #[.val (.int i1), .val (.int i2), .val (.int i3), .val (.int i4), .val (.int i5), .val (.ref a1), .unset, .unset, .unset, .unset, .unset, .unset, .unset] [(.int (4 : Int32)), (.int i2)]))
    refine own_on (fun _ k => XS.iand X1.here hx rfl (hb hby at_8) rfl k) ?_
    show own_Go p.tables e below _ (T1.setTop (mkF m 9 #[.val (.int i1), .val (.int i2), .val (.int i3), .val (.int i4), .val (.int i5), .val (.ref a1), .unset, .unset, .unset, .unset, .unset, .unset, .unset] [(.int (i2 &&& (4 : Int32)))]))
    by_cases hc3 : (i2 &&& (4 : Int32)) = (0 : Int32)
    · refine own_on (fun _ k => XS.ifYes X1.here hx rfl (pc0 := 9) (pc' := 16) rfl (hb hby at_9) rfl (XT.i0_eq_t hc3) (by decide) (by decide) k) ?_
      show own_Go p.tables e below _ (T1.setTop (mkF m 16 #[.val (.int i1), .val (.int i2), .val (.int i3), .val (.int i4), .val (.int i5), .val (.ref a1), .unset, .unset, .unset, .unset, .unset, .unset, .unset] []))
      refine own_on (fun _ k => XT.iconstV X1.here hx rfl (0 : Int32) (hb hby at_16) (by decide) k) ?_
      show own_Go p.tables e below _ (T1.setTop (mkF m 17 #[.val (.int i1), .val (.int i2), .val (.int i3), .val (.int i4), .val (.int i5), .val (.ref a1), .unset, .unset, .unset, .unset, .unset, .unset, .unset] [(.int (0 : Int32))]))
      exact own_here ⟨T1, _, X1, N1, rfl, by rw [show (own_na i1 i2 i3 i4 i5) = (0 : Int32) from by simp only [own_na, if_pos hc3] <;> rfl]⟩
    · refine own_on (fun _ k => XS.ifNo X1.here hx rfl (hb hby at_9) rfl (XT.i0_eq_f hc3) k) ?_
      show own_Go p.tables e below _ (T1.setTop (mkF m 12 #[.val (.int i1), .val (.int i2), .val (.int i3), .val (.int i4), .val (.int i5), .val (.ref a1), .unset, .unset, .unset, .unset, .unset, .unset, .unset] []))
      refine own_on (fun _ k => XT.iconstV X1.here hx rfl (1 : Int32) (hb hby at_12) (by decide) k) ?_
      show own_Go p.tables e below _ (T1.setTop (mkF m 13 #[.val (.int i1), .val (.int i2), .val (.int i3), .val (.int i4), .val (.int i5), .val (.ref a1), .unset, .unset, .unset, .unset, .unset, .unset, .unset] [(.int (1 : Int32))]))
      refine own_on (fun _ k => XS.goto X1.here hx rfl (pc0 := 13) (pc' := 17) rfl (hb hby at_13) (by decide) (by decide) k) ?_
      show own_Go p.tables e below _ (T1.setTop (mkF m 17 #[.val (.int i1), .val (.int i2), .val (.int i3), .val (.int i4), .val (.int i5), .val (.ref a1), .unset, .unset, .unset, .unset, .unset, .unset, .unset] [(.int (1 : Int32))]))
      exact own_here ⟨T1, _, X1, N1, rfl, by rw [show (own_na i1 i2 i3 i4 i5) = (1 : Int32) from by simp only [own_na, if_neg hc3] <;> rfl]⟩
  refine own_go st2 ?_
  show own_Fin p.tables e below _ (T2.setTop (mkF m 17 #[.val (.int i1), .val (.int i2), .val (.int i3), .val (.int i4), .val (.int i5), .val (.ref a1), .unset, .unset, .unset, .unset, .unset, .unset, .unset] [(.int (own_na i1 i2 i3 i4 i5))]))
  refine own_go (fun _ k => XS.istore X2.here hx rfl (hb hby at_17) rfl (l' := #[.val (.int i1), .val (.int i2), .val (.int i3), .val (.int i4), .val (.int i5), .val (.ref a1), .val (.int (own_na i1 i2 i3 i4 i5)), .unset, .unset, .unset, .unset, .unset, .unset]) rfl k) ?_
  show own_Fin p.tables e below _ (T2.setTop (mkF m 19 #[.val (.int i1), .val (.int i2), .val (.int i3), .val (.int i4), .val (.int i5), .val (.ref a1), .val (.int (own_na i1 i2 i3 i4 i5)), .unset, .unset, .unset, .unset, .unset, .unset] []))
  refine own_go (fun _ k => XS.iload X2.here hx rfl (hb hby at_19) rfl k) ?_
  show own_Fin p.tables e below _ (T2.setTop (mkF m 21 #[.val (.int i1), .val (.int i2), .val (.int i3), .val (.int i4), .val (.int i5), .val (.ref a1), .val (.int (own_na i1 i2 i3 i4 i5)), .unset, .unset, .unset, .unset, .unset, .unset] [(.int (own_na i1 i2 i3 i4 i5))]))
  by_cases hc4 : (own_na i1 i2 i3 i4 i5) = (0 : Int32)
  · refine own_go (fun _ k => XS.ifYes X2.here hx rfl (pc0 := 21) (pc' := 28) rfl (hb hby at_21) rfl (XT.i0_eq_t hc4) (by decide) (by decide) k) ?_
    show own_Fin p.tables e below _ (T2.setTop (mkF m 28 #[.val (.int i1), .val (.int i2), .val (.int i3), .val (.int i4), .val (.int i5), .val (.ref a1), .val (.int (own_na i1 i2 i3 i4 i5)), .unset, .unset, .unset, .unset, .unset, .unset] []))
    refine own_go (fun _ k => XS.iloadN X2.here hx rfl (hb hby at_28) rfl k) ?_
    show own_Fin p.tables e below _ (T2.setTop (mkF m 29 #[.val (.int i1), .val (.int i2), .val (.int i3), .val (.int i4), .val (.int i5), .val (.ref a1), .val (.int (own_na i1 i2 i3 i4 i5)), .unset, .unset, .unset, .unset, .unset, .unset] [(.int i2)]))
    obtain ⟨_, T5, L5, X5, hZ5, hS5, ho5, ⟨a5, rfl, M5, KK5, q5, S5, LO5⟩, st5⟩ := own_callSW X2 hx hZ1 hS1 (by rw [e2]; exact (Nat.le_refl _)) ho1 (hw _ (List.mem_of_getElem? (i := 0) rfl)) (hw _ (List.mem_of_getElem? (i := 1) rfl)) (hw _ (List.mem_of_getElem? (i := 2) rfl)) (hw _ (List.mem_of_getElem? (i := 3) rfl)) (by decide) (W := 0) (rm2 l Z a0 hw [] i2 T1.heap n0 (Nat.le_trans Z0 K1.1) ic SC hz O_1 hheld hcw) (fun vm hv => own_LO.warm (LO1.mono (Nat.le_refl _)) hv) (by decide) (by decide) e2 (g := (mkF m 29 #[.val (.int i1), .val (.int i2), .val (.int i3), .val (.int i4), .val (.int i5), .val (.ref a1), .val (.int (own_na i1 i2 i3 i4 i5)), .unset, .unset, .unset, .unset, .unset, .unset] [(.int i2)])) rfl (by rw [hml]; rfl) (argsL := [(.int i2)]) (rest := []) rfl (lenOf pd4 rfl) rfl (by show 2 * 0 + _ ≤ _; exact Nat.le_of_eq rfl) (hb hby at_29) (by decide) (by decide)
    have N5 := Fr.app N2 M5
    have Stra1_5 := S1.keep0 KK5
    have O_5 := O_1.keep KK5 all0
    have K5 := K1.trans KK5 all0
    refine own_go st5 ?_
    show own_Fin p.tables e below _ (T5.setTop (mkF m 32 #[.val (.int i1), .val (.int i2), .val (.int i3), .val (.int i4), .val (.int i5), .val (.ref a1), .val (.int (own_na i1 i2 i3 i4 i5)), .unset, .unset, .unset, .unset, .unset, .unset] [(.ref a5)]))
    refine own_go (fun _ k => XS.astore X5.here hx rfl (hb hby at_32) rfl rfl (l' := #[.val (.int i1), .val (.int i2), .val (.int i3), .val (.int i4), .val (.int i5), .val (.ref a1), .val (.int (own_na i1 i2 i3 i4 i5)), .val (.ref a5), .unset, .unset, .unset, .unset, .unset]) rfl k) ?_
    show own_Fin p.tables e below _ (T5.setTop (mkF m 34 #[.val (.int i1), .val (.int i2), .val (.int i3), .val (.int i4), .val (.int i5), .val (.ref a1), .val (.int (own_na i1 i2 i3 i4 i5)), .val (.ref a5), .unset, .unset, .unset, .unset, .unset] []))
    refine own_go (fun _ k => XS.iloadN X5.here hx rfl (hb hby at_34) rfl k) ?_
    show own_Fin p.tables e below _ (T5.setTop (mkF m 35 #[.val (.int i1), .val (.int i2), .val (.int i3), .val (.int i4), .val (.int i5), .val (.ref a1), .val (.int (own_na i1 i2 i3 i4 i5)), .val (.ref a5), .unset, .unset, .unset, .unset, .unset] [(.int i3)]))
    obtain ⟨_, T6, L6, X6, hZ6, hS6, ho6, ⟨a6, rfl, M6, KK6, q6, S6, LO6⟩, st6⟩ := own_callSW X5 hx hZ5 hS5 (Nat.le_refl _) ho5 (hw _ (List.mem_of_getElem? (i := 0) rfl)) (hw _ (List.mem_of_getElem? (i := 1) rfl)) (hw _ (List.mem_of_getElem? (i := 2) rfl)) (hw _ (List.mem_of_getElem? (i := 3) rfl)) (by decide) (W := 0) (rm2 l Z a0 hw [] i3 T5.heap n0 (Nat.le_trans Z0 K5.1) ic SC hz O_5 hheld hcw) (fun vm hv => own_LO.warm (LO5.mono (Nat.le_refl _)) hv) (by decide) (by decide) rfl (g := (mkF m 35 #[.val (.int i1), .val (.int i2), .val (.int i3), .val (.int i4), .val (.int i5), .val (.ref a1), .val (.int (own_na i1 i2 i3 i4 i5)), .val (.ref a5), .unset, .unset, .unset, .unset, .unset] [(.int i3)])) rfl (by rw [hml]; rfl) (argsL := [(.int i3)]) (rest := []) rfl (lenOf pd4 rfl) rfl (by show 2 * 0 + _ ≤ _; exact Nat.le_of_eq rfl) (hb hby at_35) (by decide) (by decide)
    have N6 := Fr.app N5 M6
    have Stra1_6 := Stra1_5.keep0 KK6
    have Stra5_6 := S5.keep0 KK6
    have O_6 := O_5.keep KK6 all0
    have K6 := K5.trans KK6 all0
    refine own_go st6 ?_
    show own_Fin p.tables e below _ (T6.setTop (mkF m 38 #[.val (.int i1), .val (.int i2), .val (.int i3), .val (.int i4), .val (.int i5), .val (.ref a1), .val (.int (own_na i1 i2 i3 i4 i5)), .val (.ref a5), .unset, .unset, .unset, .unset, .unset] [(.ref a6)]))
    refine own_go (fun _ k => XS.astore X6.here hx rfl (hb hby at_38) rfl rfl (l' := #[.val (.int i1), .val (.int i2), .val (.int i3), .val (.int i4), .val (.int i5), .val (.ref a1), .val (.int (own_na i1 i2 i3 i4 i5)), .val (.ref a5), .val (.ref a6), .unset, .unset, .unset, .unset]) rfl k) ?_
    show own_Fin p.tables e below _ (T6.setTop (mkF m 40 #[.val (.int i1), .val (.int i2), .val (.int i3), .val (.int i4), .val (.int i5), .val (.ref a1), .val (.int (own_na i1 i2 i3 i4 i5)), .val (.ref a5), .val (.ref a6), .unset, .unset, .unset, .unset] []))
    refine own_go (fun _ k => XS.iloadN X6.here hx rfl (hb hby at_40) rfl k) ?_
    show own_Fin p.tables e below _ (T6.setTop (mkF m 41 #[.val (.int i1), .val (.int i2), .val (.int i3), .val (.int i4), .val (.int i5), .val (.ref a1), .val (.int (own_na i1 i2 i3 i4 i5)), .val (.ref a5), .val (.ref a6), .unset, .unset, .unset, .unset] [(.int i4)]))
    refine own_go (fun _ k => X6.ldcI hx ho6 (mvT hZ6 (hw _ (List.mem_of_getElem? (i := 40) rfl))) rfl (hb hby at_41) k) ?_
    show own_Fin p.tables e below _ (T6.setTop (mkF m 43 #[.val (.int i1), .val (.int i2), .val (.int i3), .val (.int i4), .val (.int i5), .val (.ref a1), .val (.int (own_na i1 i2 i3 i4 i5)), .val (.ref a5), .val (.ref a6), .unset, .unset, .unset, .unset] [(.int (2147483647 : Int32)), (.int i4)]))
    refine own_go (fun _ k => XS.iand X6.here hx rfl (hb hby at_43) rfl k) ?_
    show own_Fin p.tables e below _ (T6.setTop (mkF m 44 #[.val (.int i1), .val (.int i2), .val (.int i3), .val (.int i4), .val (.int i5), .val (.ref a1), .val (.int (own_na i1 i2 i3 i4 i5)), .val (.ref a5), .val (.ref a6), .unset, .unset, .unset, .unset] [(.int (i4 &&& (2147483647 : Int32)))]))
    refine own_go (fun _ k => XT.iconstV X6.here hx rfl (3 : Int32) (hb hby at_44) (by decide) k) ?_
    show own_Fin p.tables e below _ (T6.setTop (mkF m 45 #[.val (.int i1), .val (.int i2), .val (.int i3), .val (.int i4), .val (.int i5), .val (.ref a1), .val (.int (own_na i1 i2 i3 i4 i5)), .val (.ref a5), .val (.ref a6), .unset, .unset, .unset, .unset] [(.int (3 : Int32)), (.int (i4 &&& (2147483647 : Int32)))]))
    refine own_go (fun _ k => iremM X6 hx rfl (hb hby at_45) rfl (by decide) k) ?_
    show own_Fin p.tables e below _ (T6.setTop (mkF m 46 #[.val (.int i1), .val (.int i2), .val (.int i3), .val (.int i4), .val (.int i5), .val (.ref a1), .val (.int (own_na i1 i2 i3 i4 i5)), .val (.ref a5), .val (.ref a6), .unset, .unset, .unset, .unset] [(.int ((i4 &&& (2147483647 : Int32)) % (3 : Int32)))]))
    refine own_go (fun _ k => XS.istore X6.here hx rfl (hb hby at_46) rfl (l' := #[.val (.int i1), .val (.int i2), .val (.int i3), .val (.int i4), .val (.int i5), .val (.ref a1), .val (.int (own_na i1 i2 i3 i4 i5)), .val (.ref a5), .val (.ref a6), .val (.int ((i4 &&& (2147483647 : Int32)) % (3 : Int32))), .unset, .unset, .unset]) rfl k) ?_
    show own_Fin p.tables e below _ (T6.setTop (mkF m 48 #[.val (.int i1), .val (.int i2), .val (.int i3), .val (.int i4), .val (.int i5), .val (.ref a1), .val (.int (own_na i1 i2 i3 i4 i5)), .val (.ref a5), .val (.ref a6), .val (.int ((i4 &&& (2147483647 : Int32)) % (3 : Int32))), .unset, .unset, .unset] []))
    obtain ⟨_, ⟨T7, L7, X7, N7, e7, rfl⟩, st7⟩ : own_Go p.tables e below (fun t => ∃ T' L', Stand p l e room_1 (s.setVm T6.vm) m #[(.int i1), (.int i2), (.int i3), (.int i4), (.int i5)] below meth c T' L' 12 30 ∧ Fr n0 L' ∧ T'.heap = T6.heap ∧ t = T'.setTop (mkF m 80 #[.val (.int i1), .val (.int i2), .val (.int i3), .val (.int i4), .val (.int i5), .val (.ref a1), .val (.int (own_na i1 i2 i3 i4 i5)), .val (.ref a5), .val (.ref a6), .val (.int ((i4 &&& (2147483647 : Int32)) % (3 : Int32))), .val (.ref (own_kd rF rO rR i4)), .unset, .unset] [])) (T6.setTop (mkF m 48 #[.val (.int i1), .val (.int i2), .val (.int i3), .val (.int i4), .val (.int i5), .val (.ref a1), .val (.int (own_na i1 i2 i3 i4 i5)), .val (.ref a5), .val (.ref a6), .val (.int ((i4 &&& (2147483647 : Int32)) % (3 : Int32))), .unset, .unset, .unset] [])) := by
      refine own_on (fun _ k => XS.iload X6.here hx rfl (hb hby at_48) rfl k) ?_
      show own_Go p.tables e below _ (T6.setTop (mkF m 50 #[.val (.int i1), .val (.int i2), .val (.int i3), .val (.int i4), .val (.int i5), .val (.ref a1), .val (.int (own_na i1 i2 i3 i4 i5)), .val (.ref a5), .val (.ref a6), .val (.int ((i4 &&& (2147483647 : Int32)) % (3 : Int32))), .unset, .unset, .unset] [(.int ((i4 &&& (2147483647 : Int32)) % (3 : Int32)))]))
      by_cases hc8 : ((i4 &&& (2147483647 : Int32)) % (3 : Int32)) = (0 : Int32)
      · refine own_on (fun _ k => XS.ifNo X6.here hx rfl (hb hby at_50) rfl (XT.i0_ne_f hc8) k) ?_
        show own_Go p.tables e below _ (T6.setTop (mkF m 53 #[.val (.int i1), .val (.int i2), .val (.int i3), .val (.int i4), .val (.int i5), .val (.ref a1), .val (.int (own_na i1 i2 i3 i4 i5)), .val (.ref a5), .val (.ref a6), .val (.int ((i4 &&& (2147483647 : Int32)) % (3 : Int32))), .unset, .unset, .unset] []))
        obtain ⟨T9, X9, e9, st9⟩ := getS (host := "") X6 hx hZ6 ho6 (hw _ (List.mem_of_getElem? (i := 82) rfl)) Via.refl rfl (SrF.ext O_6.2) (g := (mkF m 53 #[.val (.int i1), .val (.int i2), .val (.int i3), .val (.int i4), .val (.int i5), .val (.ref a1), .val (.int (own_na i1 i2 i3 i4 i5)), .val (.ref a5), .val (.ref a6), .val (.int ((i4 &&& (2147483647 : Int32)) % (3 : Int32))), .unset, .unset, .unset] [])) rfl (hb hby at_53)
        refine own_on st9 ?_
        show own_Go p.tables e below _ (T9.setTop (mkF m 56 #[.val (.int i1), .val (.int i2), .val (.int i3), .val (.int i4), .val (.int i5), .val (.ref a1), .val (.int (own_na i1 i2 i3 i4 i5)), .val (.ref a5), .val (.ref a6), .val (.int ((i4 &&& (2147483647 : Int32)) % (3 : Int32))), .unset, .unset, .unset] [(.ref rF)]))
        refine own_on (fun _ k => XS.astore X9.here hx rfl (hb hby at_56) rfl rfl (l' := #[.val (.int i1), .val (.int i2), .val (.int i3), .val (.int i4), .val (.int i5), .val (.ref a1), .val (.int (own_na i1 i2 i3 i4 i5)), .val (.ref a5), .val (.ref a6), .val (.int ((i4 &&& (2147483647 : Int32)) % (3 : Int32))), .val (.ref rF), .unset, .unset]) rfl k) ?_
        show own_Go p.tables e below _ (T9.setTop (mkF m 58 #[.val (.int i1), .val (.int i2), .val (.int i3), .val (.int i4), .val (.int i5), .val (.ref a1), .val (.int (own_na i1 i2 i3 i4 i5)), .val (.ref a5), .val (.ref a6), .val (.int ((i4 &&& (2147483647 : Int32)) % (3 : Int32))), .val (.ref rF), .unset, .unset] []))
        refine own_on (fun _ k => XS.goto X9.here hx rfl (pc0 := 58) (pc' := 80) rfl (hb hby at_58) (by decide) (by decide) k) ?_
        show own_Go p.tables e below _ (T9.setTop (mkF m 80 #[.val (.int i1), .val (.int i2), .val (.int i3), .val (.int i4), .val (.int i5), .val (.ref a1), .val (.int (own_na i1 i2 i3 i4 i5)), .val (.ref a5), .val (.ref a6), .val (.int ((i4 &&& (2147483647 : Int32)) % (3 : Int32))), .val (.ref rF), .unset, .unset] []))
        exact own_here ⟨T9, _, X9, N6, e9, by rw [show (own_kd rF rO rR i4) = rF from by simp only [own_kd, if_pos hc8] <;> rfl]⟩
      · refine own_on (fun _ k => XS.ifYes X6.here hx rfl (pc0 := 50) (pc' := 61) rfl (hb hby at_50) rfl (XT.i0_ne_t hc8) (by decide) (by decide) k) ?_
        show own_Go p.tables e below _ (T6.setTop (mkF m 61 #[.val (.int i1), .val (.int i2), .val (.int i3), .val (.int i4), .val (.int i5), .val (.ref a1), .val (.int (own_na i1 i2 i3 i4 i5)), .val (.ref a5), .val (.ref a6), .val (.int ((i4 &&& (2147483647 : Int32)) % (3 : Int32))), .unset, .unset, .unset] []))
        refine own_on (fun _ k => XS.iload X6.here hx rfl (hb hby at_61) rfl k) ?_
        show own_Go p.tables e below _ (T6.setTop (mkF m 63 #[.val (.int i1), .val (.int i2), .val (.int i3), .val (.int i4), .val (.int i5), .val (.ref a1), .val (.int (own_na i1 i2 i3 i4 i5)), .val (.ref a5), .val (.ref a6), .val (.int ((i4 &&& (2147483647 : Int32)) % (3 : Int32))), .unset, .unset, .unset] [(.int ((i4 &&& (2147483647 : Int32)) % (3 : Int32)))]))
        refine own_on (fun _ k => XT.iconstV X6.here hx rfl (1 : Int32) (hb hby at_63) (by decide) k) ?_
        show own_Go p.tables e below _ (T6.setTop (mkF m 64 #[.val (.int i1), .val (.int i2), .val (.int i3), .val (.int i4), .val (.int i5), .val (.ref a1), .val (.int (own_na i1 i2 i3 i4 i5)), .val (.ref a5), .val (.ref a6), .val (.int ((i4 &&& (2147483647 : Int32)) % (3 : Int32))), .unset, .unset, .unset] [(.int (1 : Int32)), (.int ((i4 &&& (2147483647 : Int32)) % (3 : Int32)))]))
        by_cases hc10 : ((i4 &&& (2147483647 : Int32)) % (3 : Int32)) = (1 : Int32)
        · refine own_on (fun _ k => XS.icmpNo X6.here hx rfl (hb hby at_64) rfl (XT.ii_ne_f hc10) k) ?_
          show own_Go p.tables e below _ (T6.setTop (mkF m 67 #[.val (.int i1), .val (.int i2), .val (.int i3), .val (.int i4), .val (.int i5), .val (.ref a1), .val (.int (own_na i1 i2 i3 i4 i5)), .val (.ref a5), .val (.ref a6), .val (.int ((i4 &&& (2147483647 : Int32)) % (3 : Int32))), .unset, .unset, .unset] []))
          obtain ⟨T11, X11, e11, st11⟩ := getS (host := "") X6 hx hZ6 ho6 (hw _ (List.mem_of_getElem? (i := 41) rfl)) Via.refl rfl (SrO.ext O_6.2) (g := (mkF m 67 #[.val (.int i1), .val (.int i2), .val (.int i3), .val (.int i4), .val (.int i5), .val (.ref a1), .val (.int (own_na i1 i2 i3 i4 i5)), .val (.ref a5), .val (.ref a6), .val (.int ((i4 &&& (2147483647 : Int32)) % (3 : Int32))), .unset, .unset, .unset] [])) rfl (hb hby at_67)
          refine own_on st11 ?_
          show own_Go p.tables e below _ (T11.setTop (mkF m 70 #[.val (.int i1), .val (.int i2), .val (.int i3), .val (.int i4), .val (.int i5), .val (.ref a1), .val (.int (own_na i1 i2 i3 i4 i5)), .val (.ref a5), .val (.ref a6), .val (.int ((i4 &&& (2147483647 : Int32)) % (3 : Int32))), .unset, .unset, .unset] [(.ref rO)]))
          refine own_on (fun _ k => XS.astore X11.here hx rfl (hb hby at_70) rfl rfl (l' := #[.val (.int i1), .val (.int i2), .val (.int i3), .val (.int i4), .val (.int i5), .val (.ref a1), .val (.int (own_na i1 i2 i3 i4 i5)), .val (.ref a5), .val (.ref a6), .val (.int ((i4 &&& (2147483647 : Int32)) % (3 : Int32))), .val (.ref rO), .unset, .unset]) rfl k) ?_
          show own_Go p.tables e below _ (T11.setTop (mkF m 72 #[.val (.int i1), .val (.int i2), .val (.int i3), .val (.int i4), .val (.int i5), .val (.ref a1), .val (.int (own_na i1 i2 i3 i4 i5)), .val (.ref a5), .val (.ref a6), .val (.int ((i4 &&& (2147483647 : Int32)) % (3 : Int32))), .val (.ref rO), .unset, .unset] []))
          refine own_on (fun _ k => XS.goto X11.here hx rfl (pc0 := 72) (pc' := 80) rfl (hb hby at_72) (by decide) (by decide) k) ?_
          show own_Go p.tables e below _ (T11.setTop (mkF m 80 #[.val (.int i1), .val (.int i2), .val (.int i3), .val (.int i4), .val (.int i5), .val (.ref a1), .val (.int (own_na i1 i2 i3 i4 i5)), .val (.ref a5), .val (.ref a6), .val (.int ((i4 &&& (2147483647 : Int32)) % (3 : Int32))), .val (.ref rO), .unset, .unset] []))
          exact own_here ⟨T11, _, X11, N6, e11, by rw [show (own_kd rF rO rR i4) = rO from by simp only [own_kd, if_neg hc8, if_pos hc10] <;> rfl]⟩
        · refine own_on (fun _ k => XS.icmpYes X6.here hx rfl (pc0 := 64) (pc' := 75) rfl (hb hby at_64) rfl (XT.ii_ne_t hc10) (by decide) (by decide) k) ?_
          show own_Go p.tables e below _ (T6.setTop (mkF m 75 #[.val (.int i1), .val (.int i2), .val (.int i3), .val (.int i4), .val (.int i5), .val (.ref a1), .val (.int (own_na i1 i2 i3 i4 i5)), .val (.ref a5), .val (.ref a6), .val (.int ((i4 &&& (2147483647 : Int32)) % (3 : Int32))), .unset, .unset, .unset] []))
          obtain ⟨T12, X12, e12, st12⟩ := getS (host := "") X6 hx hZ6 ho6 (hw _ (List.mem_of_getElem? (i := 84) rfl)) Via.refl rfl (SrR.ext O_6.2) (g := (mkF m 75 #[.val (.int i1), .val (.int i2), .val (.int i3), .val (.int i4), .val (.int i5), .val (.ref a1), .val (.int (own_na i1 i2 i3 i4 i5)), .val (.ref a5), .val (.ref a6), .val (.int ((i4 &&& (2147483647 : Int32)) % (3 : Int32))), .unset, .unset, .unset] [])) rfl (hb hby at_75)
          refine own_on st12 ?_
          show own_Go p.tables e below _ (T12.setTop (mkF m 78 #[.val (.int i1), .val (.int i2), .val (.int i3), .val (.int i4), .val (.int i5), .val (.ref a1), .val (.int (own_na i1 i2 i3 i4 i5)), .val (.ref a5), .val (.ref a6), .val (.int ((i4 &&& (2147483647 : Int32)) % (3 : Int32))), .unset, .unset, .unset] [(.ref rR)]))
          refine own_on (fun _ k => XS.astore X12.here hx rfl (hb hby at_78) rfl rfl (l' := #[.val (.int i1), .val (.int i2), .val (.int i3), .val (.int i4), .val (.int i5), .val (.ref a1), .val (.int (own_na i1 i2 i3 i4 i5)), .val (.ref a5), .val (.ref a6), .val (.int ((i4 &&& (2147483647 : Int32)) % (3 : Int32))), .val (.ref rR), .unset, .unset]) rfl k) ?_
          show own_Go p.tables e below _ (T12.setTop (mkF m 80 #[.val (.int i1), .val (.int i2), .val (.int i3), .val (.int i4), .val (.int i5), .val (.ref a1), .val (.int (own_na i1 i2 i3 i4 i5)), .val (.ref a5), .val (.ref a6), .val (.int ((i4 &&& (2147483647 : Int32)) % (3 : Int32))), .val (.ref rR), .unset, .unset] []))
          exact own_here ⟨T12, _, X12, N6, e12, by rw [show (own_kd rF rO rR i4) = rR from by simp only [own_kd, if_neg hc8, if_neg hc10] <;> rfl]⟩
    refine own_go st7 ?_
    show own_Fin p.tables e below _ (T7.setTop (mkF m 80 #[.val (.int i1), .val (.int i2), .val (.int i3), .val (.int i4), .val (.int i5), .val (.ref a1), .val (.int (own_na i1 i2 i3 i4 i5)), .val (.ref a5), .val (.ref a6), .val (.int ((i4 &&& (2147483647 : Int32)) % (3 : Int32))), .val (.ref (own_kd rF rO rR i4)), .unset, .unset] []))
    obtain ⟨T13, h13, X13, e13, E13, A13, D13, -, st13⟩ := newO X7 hx hZ6 ho6 (hw _ (List.mem_of_getElem? (i := 44) rfl)) (hw _ (List.mem_of_getElem? (i := 45) rfl)) (hw _ (List.mem_of_getElem? (i := 46) rfl)) e7 (g := (mkF m 80 #[.val (.int i1), .val (.int i2), .val (.int i3), .val (.int i4), .val (.int i5), .val (.ref a1), .val (.int (own_na i1 i2 i3 i4 i5)), .val (.ref a5), .val (.ref a6), .val (.int ((i4 &&& (2147483647 : Int32)) % (3 : Int32))), .val (.ref (own_kd rF rO rR i4)), .unset, .unset] [])) rfl (hb hby at_80) (by decide) (by decide)
    obtain ⟨a13, g13⟩ : ∃ z, z = T6.heap.size := ⟨_, rfl⟩
    rw [← g13] at A13 D13 st13
    have q13 : h0.size ≤ a13 := Nat.le_trans K6.1 (Nat.le_of_eq g13.symm)
    have z13 : n0 ≤ a13 := Nat.le_trans Z0 q13
    have O_13 := O_6.ext E13
    have Stra1_13 := Stra1_6.ext E13
    have Stra5_13 := Stra5_6.ext E13
    have Stra6_13 := S6.ext E13
    have LO_13 := LO6.ext E13
    have K13 := K6.ext E13
    have Fa13_name : Fld Z h13 a13 "com/example/tremorgrid/tremorgrid/app/Arguments$Option" "name" "Ljava/lang/String;" .null := D13 (Or.inr (hw _ (List.mem_of_getElem? (i := 57) rfl))) (ty := (.object "java/lang/String")) (by decide)
    have Fa13_alias : Fld Z h13 a13 "com/example/tremorgrid/tremorgrid/app/Arguments$Option" "alias" "Ljava/lang/String;" .null := D13 (Or.inr (hw _ (List.mem_of_getElem? (i := 59) rfl))) (ty := (.object "java/lang/String")) (by decide)
    have Fa13_kind : Fld Z h13 a13 "com/example/tremorgrid/tremorgrid/app/Arguments$Option" "kind" "Lcom/example/tremorgrid/tremorgrid/app/Arguments$Kind;" .null := D13 (Or.inr (hw _ (List.mem_of_getElem? (i := 61) rfl))) (ty := (.object "com/example/tremorgrid/tremorgrid/app/Arguments$Kind")) (by decide)
    have Fa13_value : Fld Z h13 a13 "com/example/tremorgrid/tremorgrid/app/Arguments$Option" "value" "Ljava/lang/String;" .null := D13 (Or.inr (hw _ (List.mem_of_getElem? (i := 63) rfl))) (ty := (.object "java/lang/String")) (by decide)
    refine own_go st13 ?_
    show own_Fin p.tables e below _ (T13.setTop (mkF m 83 #[.val (.int i1), .val (.int i2), .val (.int i3), .val (.int i4), .val (.int i5), .val (.ref a1), .val (.int (own_na i1 i2 i3 i4 i5)), .val (.ref a5), .val (.ref a6), .val (.int ((i4 &&& (2147483647 : Int32)) % (3 : Int32))), .val (.ref (own_kd rF rO rR i4)), .unset, .unset] [(.ref a13)]))
    refine own_go (fun _ k => XS.dup X13.here hx rfl (hb hby at_83) rfl rfl k) ?_
    show own_Fin p.tables e below _ (T13.setTop (mkF m 84 #[.val (.int i1), .val (.int i2), .val (.int i3), .val (.int i4), .val (.int i5), .val (.ref a1), .val (.int (own_na i1 i2 i3 i4 i5)), .val (.ref a5), .val (.ref a6), .val (.int ((i4 &&& (2147483647 : Int32)) % (3 : Int32))), .val (.ref (own_kd rF rO rR i4)), .unset, .unset] [(.ref a13), (.ref a13)]))
    refine own_go (fun _ k => XS.aload X13.here hx rfl (hb hby at_84) rfl rfl k) ?_
    show own_Fin p.tables e below _ (T13.setTop (mkF m 86 #[.val (.int i1), .val (.int i2), .val (.int i3), .val (.int i4), .val (.int i5), .val (.ref a1), .val (.int (own_na i1 i2 i3 i4 i5)), .val (.ref a5), .val (.ref a6), .val (.int ((i4 &&& (2147483647 : Int32)) % (3 : Int32))), .val (.ref (own_kd rF rO rR i4)), .unset, .unset] [(.ref a1), (.ref a13), (.ref a13)]))
    refine own_go (fun _ k => XS.aload X13.here hx rfl (hb hby at_86) rfl rfl k) ?_
    show own_Fin p.tables e below _ (T13.setTop (mkF m 88 #[.val (.int i1), .val (.int i2), .val (.int i3), .val (.int i4), .val (.int i5), .val (.ref a1), .val (.int (own_na i1 i2 i3 i4 i5)), .val (.ref a5), .val (.ref a6), .val (.int ((i4 &&& (2147483647 : Int32)) % (3 : Int32))), .val (.ref (own_kd rF rO rR i4)), .unset, .unset] [(.ref a5), (.ref a1), (.ref a13), (.ref a13)]))
    refine own_go (fun _ k => XS.aload X13.here hx rfl (hb hby at_88) rfl rfl k) ?_
    show own_Fin p.tables e below _ (T13.setTop (mkF m 90 #[.val (.int i1), .val (.int i2), .val (.int i3), .val (.int i4), .val (.int i5), .val (.ref a1), .val (.int (own_na i1 i2 i3 i4 i5)), .val (.ref a5), .val (.ref a6), .val (.int ((i4 &&& (2147483647 : Int32)) % (3 : Int32))), .val (.ref (own_kd rF rO rR i4)), .unset, .unset] [(.ref (own_kd rF rO rR i4)), (.ref a5), (.ref a1), (.ref a13), (.ref a13)]))
    refine own_go (fun _ k => XS.iload X13.here hx rfl (hb hby at_90) rfl k) ?_
    show own_Fin p.tables e below _ (T13.setTop (mkF m 92 #[.val (.int i1), .val (.int i2), .val (.int i3), .val (.int i4), .val (.int i5), .val (.ref a1), .val (.int (own_na i1 i2 i3 i4 i5)), .val (.ref a5), .val (.ref a6), .val (.int ((i4 &&& (2147483647 : Int32)) % (3 : Int32))), .val (.ref (own_kd rF rO rR i4)), .unset, .unset] [(.int i5), (.ref (own_kd rF rO rR i4)), (.ref a5), (.ref a1), (.ref a13), (.ref a13)]))
    obtain ⟨_, T14, L14, X14, hZ14, hS14, ho14, ⟨a14, rfl, M14, KK14, q14, S14, LO14⟩, st14⟩ := own_callSW X13 hx hZ6 hS6 (by rw [e13]; exact (Nat.le_trans (Nat.le_refl _) E13.1)) ho6 (hw _ (List.mem_of_getElem? (i := 0) rfl)) (hw _ (List.mem_of_getElem? (i := 1) rfl)) (hw _ (List.mem_of_getElem? (i := 2) rfl)) (hw _ (List.mem_of_getElem? (i := 3) rfl)) (by decide) (W := 5) (rm2 l Z a0 hw [] i5 h13 n0 (Nat.le_trans Z0 K13.1) ic SC hz O_13 hheld hcw) (fun vm hv => own_LO.warm (LO_13.mono (Nat.le_trans (Nat.le_refl _) E13.1)) hv) (by decide) (by decide) e13 (g := (mkF m 92 #[.val (.int i1), .val (.int i2), .val (.int i3), .val (.int i4), .val (.int i5), .val (.ref a1), .val (.int (own_na i1 i2 i3 i4 i5)), .val (.ref a5), .val (.ref a6), .val (.int ((i4 &&& (2147483647 : Int32)) % (3 : Int32))), .val (.ref (own_kd rF rO rR i4)), .unset, .unset] [(.int i5), (.ref (own_kd rF rO rR i4)), (.ref a5), (.ref a1), (.ref a13), (.ref a13)])) rfl (by rw [hml]; rfl) (argsL := [(.int i5)]) (rest := [(.ref (own_kd rF rO rR i4)), (.ref a5), (.ref a1), (.ref a13), (.ref a13)]) rfl (lenOf pd4 rfl) rfl (by show 2 * 0 + _ ≤ _; exact Nat.le_of_eq rfl) (hb hby at_92) (by decide) (by decide)
    have N14 := Fr.app N7 M14
    have Stra1_14 := Stra1_13.keep0 KK14
    have Stra5_14 := Stra5_13.keep0 KK14
    have Stra6_14 := Stra6_13.keep0 KK14
    have O_14 := O_13.keep KK14 all0
    have Ea13_14 := A13.keep KK14
    have Fa13_name_14 := Fa13_name.keep KK14 nin0
    have Fa13_alias_14 := Fa13_alias.keep KK14 nin0
    have Fa13_kind_14 := Fa13_kind.keep KK14 nin0
    have Fa13_value_14 := Fa13_value.keep KK14 nin0
    have K14 := K13.trans KK14 all0
    refine own_go st14 ?_
    show own_Fin p.tables e below _ (T14.setTop (mkF m 95 #[.val (.int i1), .val (.int i2), .val (.int i3), .val (.int i4), .val (.int i5), .val (.ref a1), .val (.int (own_na i1 i2 i3 i4 i5)), .val (.ref a5), .val (.ref a6), .val (.int ((i4 &&& (2147483647 : Int32)) % (3 : Int32))), .val (.ref (own_kd rF rO rR i4)), .unset, .unset] [(.ref a14), (.ref (own_kd rF rO rR i4)), (.ref a5), (.ref a1), (.ref a13), (.ref a13)]))
    obtain ⟨_, T15, L15, X15, ⟨rfl, M15, KK15, -, G15_name, G15_alias, G15_kind, G15_value⟩, st15⟩ := own_callC X14 hx hZ14 ho14 rfl (hw _ (List.mem_of_getElem? (i := 47) rfl)) (hw _ (List.mem_of_getElem? (i := 48) rfl)) (hw _ (List.mem_of_getElem? (i := 46) rfl)) (hw _ (List.mem_of_getElem? (i := 49) rfl)) (by decide) (W := 1) (rm5 l Z a0 hw [] a13 a1 a5 (own_kd rF rO rR i4) a14 .null .null .null .null T14.heap n0 (Nat.le_trans Z0 K14.1) Ea13_14 Fa13_name_14 Fa13_alias_14 Fa13_kind_14 Fa13_value_14 z13 ) (by decide) (by decide) rfl (g := (mkF m 95 #[.val (.int i1), .val (.int i2), .val (.int i3), .val (.int i4), .val (.int i5), .val (.ref a1), .val (.int (own_na i1 i2 i3 i4 i5)), .val (.ref a5), .val (.ref a6), .val (.int ((i4 &&& (2147483647 : Int32)) % (3 : Int32))), .val (.ref (own_kd rF rO rR i4)), .unset, .unset] [(.ref a14), (.ref (own_kd rF rO rR i4)), (.ref a5), (.ref a1), (.ref a13), (.ref a13)])) rfl (by rw [hml]; rfl) (argsL := [(.ref a1), (.ref a5), (.ref (own_kd rF rO rR i4)), (.ref a14)]) (rest := [(.ref a13)]) rfl (lenOf pd7 rfl) rfl (by show 2 * 0 + _ ≤ _; exact Nat.le_of_eq rfl) (hb hby at_95) (by decide) (by decide)
    have N15 := Fr.app N14 M15
    have Stra1_15 := Stra1_14.keepC KK15 Ea13_14 (by decide) (hw _ (List.mem_of_getElem? (i := 45) rfl))
    have Stra5_15 := Stra5_14.keepC KK15 Ea13_14 (by decide) (hw _ (List.mem_of_getElem? (i := 45) rfl))
    have Stra6_15 := Stra6_14.keepC KK15 Ea13_14 (by decide) (hw _ (List.mem_of_getElem? (i := 45) rfl))
    have Stra14_15 := S14.keepC KK15 Ea13_14 (by decide) (hw _ (List.mem_of_getElem? (i := 45) rfl))
    have LO_15 := LO14.keepC KK15 Ea13_14 (by decide) (hw _ (List.mem_of_getElem? (i := 45) rfl))
    have O_15 := O_14.keep KK15 (allS z13 all0)
    have Ea13_15 := Ea13_14.keep KK15
    have K15 := K14.trans KK15 (allS (Or.inr q13) all0)
    refine own_go st15 ?_
    show own_Fin p.tables e below _ (T15.setTop (mkF m 98 #[.val (.int i1), .val (.int i2), .val (.int i3), .val (.int i4), .val (.int i5), .val (.ref a1), .val (.int (own_na i1 i2 i3 i4 i5)), .val (.ref a5), .val (.ref a6), .val (.int ((i4 &&& (2147483647 : Int32)) % (3 : Int32))), .val (.ref (own_kd rF rO rR i4)), .unset, .unset] [(.ref a13)]))
    refine own_go (fun _ k => XS.astore X15.here hx rfl (hb hby at_98) rfl rfl (l' := #[.val (.int i1), .val (.int i2), .val (.int i3), .val (.int i4), .val (.int i5), .val (.ref a1), .val (.int (own_na i1 i2 i3 i4 i5)), .val (.ref a5), .val (.ref a6), .val (.int ((i4 &&& (2147483647 : Int32)) % (3 : Int32))), .val (.ref (own_kd rF rO rR i4)), .val (.ref a13), .unset]) rfl k) ?_
    show own_Fin p.tables e below _ (T15.setTop (mkF m 100 #[.val (.int i1), .val (.int i2), .val (.int i3), .val (.int i4), .val (.int i5), .val (.ref a1), .val (.int (own_na i1 i2 i3 i4 i5)), .val (.ref a5), .val (.ref a6), .val (.int ((i4 &&& (2147483647 : Int32)) % (3 : Int32))), .val (.ref (own_kd rF rO rR i4)), .val (.ref a13), .unset] []))
    obtain ⟨_, ⟨T16, L16, X16, N16, e16, rfl⟩, st16⟩ : own_Go p.tables e below (fun t => ∃ T' L', Stand p l e room_1 (s.setVm T14.vm) m #[(.int i1), (.int i2), (.int i3), (.int i4), (.int i5)] below meth c T' L' 17 44 ∧ Fr n0 L' ∧ T'.heap = T15.heap ∧ t = T'.setTop (mkF m 126 #[.val (.int i1), .val (.int i2), .val (.int i3), .val (.int i4), .val (.int i5), .val (.ref a1), .val (.int (own_na i1 i2 i3 i4 i5)), .val (.ref a5), .val (.ref a6), .val (.int ((i4 &&& (2147483647 : Int32)) % (3 : Int32))), .val (.ref (own_kd rF rO rR i4)), .val (.ref a13), .unset] [(.int (own_exp i1 i2 i3 i4 i5))])) (T15.setTop (mkF m 100 #[.val (.int i1), .val (.int i2), .val (.int i3), .val (.int i4), .val (.int i5), .val (.ref a1), .val (.int (own_na i1 i2 i3 i4 i5)), .val (.ref a5), .val (.ref a6), .val (.int ((i4 &&& (2147483647 : Int32)) % (3 : Int32))), .val (.ref (own_kd rF rO rR i4)), .val (.ref a13), .unset] [])) := by
      refine own_on (fun _ k => XS.iloadN X15.here hx rfl (hb hby at_100) rfl k) ?_
      show own_Go p.tables e below _ (T15.setTop (mkF m 101 #[.val (.int i1), .val (.int i2), .val (.int i3), .val (.int i4), .val (.int i5), .val (.ref a1), .val (.int (own_na i1 i2 i3 i4 i5)), .val (.ref a5), .val (.ref a6), .val (.int ((i4 &&& (2147483647 : Int32)) % (3 : Int32))), .val (.ref (own_kd rF rO rR i4)), .val (.ref a13), .unset] [(.int i1)]))
      refine own_on (fun _ k => XS.iloadN X15.here hx rfl (hb hby at_101) rfl k) ?_
      show own_Go p.tables e below _ (T15.setTop (mkF m 102 #[.val (.int i1), .val (.int i2), .val (.int i3), .val (.int i4), .val (.int i5), .val (.ref a1), .val (.int (own_na i1 i2 i3 i4 i5)), .val (.ref a5), .val (.ref a6), .val (.int ((i4 &&& (2147483647 : Int32)) % (3 : Int32))), .val (.ref (own_kd rF rO rR i4)), .val (.ref a13), .unset] [(.int i3), (.int i1)]))
      obtain ⟨_, T17, L17, X17, ⟨rfl, M17, e17⟩, st17⟩ := own_callS X15 hx hZ14 ho14 (hw _ (List.mem_of_getElem? (i := 64) rfl)) (hw _ (List.mem_of_getElem? (i := 65) rfl)) (hw _ (List.mem_of_getElem? (i := 2) rfl)) (hw _ (List.mem_of_getElem? (i := 66) rfl)) (by decide) (W := 0) (rm3 l Z a0 hw [] i1 i3 T15.heap n0 (Nat.le_trans Z0 K15.1) ) (by decide) (by decide) rfl (g := (mkF m 102 #[.val (.int i1), .val (.int i2), .val (.int i3), .val (.int i4), .val (.int i5), .val (.ref a1), .val (.int (own_na i1 i2 i3 i4 i5)), .val (.ref a5), .val (.ref a6), .val (.int ((i4 &&& (2147483647 : Int32)) % (3 : Int32))), .val (.ref (own_kd rF rO rR i4)), .val (.ref a13), .unset] [(.int i3), (.int i1)])) rfl (by rw [hml]; rfl) (argsL := [(.int i1), (.int i3)]) (rest := []) rfl (lenOf pd5 rfl) rfl (by show 2 * 0 + _ ≤ _; exact Nat.le_of_eq rfl) (hb hby at_102) (by decide) (by decide)
      have N17 := Fr.app N15 M17
      refine own_on st17 ?_
      show own_Go p.tables e below _ (T17.setTop (mkF m 105 #[.val (.int i1), .val (.int i2), .val (.int i3), .val (.int i4), .val (.int i5), .val (.ref a1), .val (.int (own_na i1 i2 i3 i4 i5)), .val (.ref a5), .val (.ref a6), .val (.int ((i4 &&& (2147483647 : Int32)) % (3 : Int32))), .val (.ref (own_kd rF rO rR i4)), .val (.ref a13), .unset] [(.int (f3 i1 i3))]))
      by_cases hc18 : (f3 i1 i3) = (0 : Int32)
      · refine own_on (fun _ k => XS.ifNo X17.here hx rfl (hb hby at_105) rfl (XT.i0_ne_f hc18) k) ?_
        show own_Go p.tables e below _ (T17.setTop (mkF m 108 #[.val (.int i1), .val (.int i2), .val (.int i3), .val (.int i4), .val (.int i5), .val (.ref a1), .val (.int (own_na i1 i2 i3 i4 i5)), .val (.ref a5), .val (.ref a6), .val (.int ((i4 &&& (2147483647 : Int32)) % (3 : Int32))), .val (.ref (own_kd rF rO rR i4)), .val (.ref a13), .unset] []))
        refine own_on (fun _ k => XS.iload X17.here hx rfl (hb hby at_108) rfl k) ?_
        show own_Go p.tables e below _ (T17.setTop (mkF m 110 #[.val (.int i1), .val (.int i2), .val (.int i3), .val (.int i4), .val (.int i5), .val (.ref a1), .val (.int (own_na i1 i2 i3 i4 i5)), .val (.ref a5), .val (.ref a6), .val (.int ((i4 &&& (2147483647 : Int32)) % (3 : Int32))), .val (.ref (own_kd rF rO rR i4)), .val (.ref a13), .unset] [(.int (own_na i1 i2 i3 i4 i5))]))
        refine own_on (fun _ k => XS.ifNo X17.here hx rfl (hb hby at_110) rfl (XT.i0_ne_f hc4) k) ?_
        show own_Go p.tables e below _ (T17.setTop (mkF m 113 #[.val (.int i1), .val (.int i2), .val (.int i3), .val (.int i4), .val (.int i5), .val (.ref a1), .val (.int (own_na i1 i2 i3 i4 i5)), .val (.ref a5), .val (.ref a6), .val (.int ((i4 &&& (2147483647 : Int32)) % (3 : Int32))), .val (.ref (own_kd rF rO rR i4)), .val (.ref a13), .unset] []))
        refine own_on (fun _ k => XS.iloadN X17.here hx rfl (hb hby at_113) rfl k) ?_
        show own_Go p.tables e below _ (T17.setTop (mkF m 114 #[.val (.int i1), .val (.int i2), .val (.int i3), .val (.int i4), .val (.int i5), .val (.ref a1), .val (.int (own_na i1 i2 i3 i4 i5)), .val (.ref a5), .val (.ref a6), .val (.int ((i4 &&& (2147483647 : Int32)) % (3 : Int32))), .val (.ref (own_kd rF rO rR i4)), .val (.ref a13), .unset] [(.int i2)]))
        refine own_on (fun _ k => XS.iloadN X17.here hx rfl (hb hby at_114) rfl k) ?_
        show own_Go p.tables e below _ (T17.setTop (mkF m 115 #[.val (.int i1), .val (.int i2), .val (.int i3), .val (.int i4), .val (.int i5), .val (.ref a1), .val (.int (own_na i1 i2 i3 i4 i5)), .val (.ref a5), .val (.ref a6), .val (.int ((i4 &&& (2147483647 : Int32)) % (3 : Int32))), .val (.ref (own_kd rF rO rR i4)), .val (.ref a13), .unset] [(.int i3), (.int i2)]))
        obtain ⟨_, T19, L19, X19, ⟨rfl, M19, e19⟩, st19⟩ := own_callS X17 hx hZ14 ho14 (hw _ (List.mem_of_getElem? (i := 64) rfl)) (hw _ (List.mem_of_getElem? (i := 65) rfl)) (hw _ (List.mem_of_getElem? (i := 2) rfl)) (hw _ (List.mem_of_getElem? (i := 66) rfl)) (by decide) (W := 0) (rm3 l Z a0 hw [] i2 i3 T15.heap n0 (Nat.le_trans Z0 K15.1) ) (by decide) (by decide) e17 (g := (mkF m 115 #[.val (.int i1), .val (.int i2), .val (.int i3), .val (.int i4), .val (.int i5), .val (.ref a1), .val (.int (own_na i1 i2 i3 i4 i5)), .val (.ref a5), .val (.ref a6), .val (.int ((i4 &&& (2147483647 : Int32)) % (3 : Int32))), .val (.ref (own_kd rF rO rR i4)), .val (.ref a13), .unset] [(.int i3), (.int i2)])) rfl (by rw [hml]; rfl) (argsL := [(.int i2), (.int i3)]) (rest := []) rfl (lenOf pd5 rfl) rfl (by show 2 * 0 + _ ≤ _; exact Nat.le_of_eq rfl) (hb hby at_115) (by decide) (by decide)
        have N19 := Fr.app N17 M19
        refine own_on st19 ?_
        show own_Go p.tables e below _ (T19.setTop (mkF m 118 #[.val (.int i1), .val (.int i2), .val (.int i3), .val (.int i4), .val (.int i5), .val (.ref a1), .val (.int (own_na i1 i2 i3 i4 i5)), .val (.ref a5), .val (.ref a6), .val (.int ((i4 &&& (2147483647 : Int32)) % (3 : Int32))), .val (.ref (own_kd rF rO rR i4)), .val (.ref a13), .unset] [(.int (f3 i2 i3))]))
        by_cases hc20 : (f3 i2 i3) = (0 : Int32)
        · refine own_on (fun _ k => XS.ifYes X19.here hx rfl (pc0 := 118) (pc' := 125) rfl (hb hby at_118) rfl (XT.i0_eq_t hc20) (by decide) (by decide) k) ?_
          show own_Go p.tables e below _ (T19.setTop (mkF m 125 #[.val (.int i1), .val (.int i2), .val (.int i3), .val (.int i4), .val (.int i5), .val (.ref a1), .val (.int (own_na i1 i2 i3 i4 i5)), .val (.ref a5), .val (.ref a6), .val (.int ((i4 &&& (2147483647 : Int32)) % (3 : Int32))), .val (.ref (own_kd rF rO rR i4)), .val (.ref a13), .unset] []))
          refine own_on (fun _ k => XT.iconstV X19.here hx rfl (0 : Int32) (hb hby at_125) (by decide) k) ?_
          show own_Go p.tables e below _ (T19.setTop (mkF m 126 #[.val (.int i1), .val (.int i2), .val (.int i3), .val (.int i4), .val (.int i5), .val (.ref a1), .val (.int (own_na i1 i2 i3 i4 i5)), .val (.ref a5), .val (.ref a6), .val (.int ((i4 &&& (2147483647 : Int32)) % (3 : Int32))), .val (.ref (own_kd rF rO rR i4)), .val (.ref a13), .unset] [(.int (0 : Int32))]))
          exact own_here ⟨T19, _, X19, N19, e19, by rw [show (own_exp i1 i2 i3 i4 i5) = (0 : Int32) from by simp only [own_exp, if_pos hc18, if_pos hc20] <;> rfl]⟩
        · refine own_on (fun _ k => XS.ifNo X19.here hx rfl (hb hby at_118) rfl (XT.i0_eq_f hc20) k) ?_
          show own_Go p.tables e below _ (T19.setTop (mkF m 121 #[.val (.int i1), .val (.int i2), .val (.int i3), .val (.int i4), .val (.int i5), .val (.ref a1), .val (.int (own_na i1 i2 i3 i4 i5)), .val (.ref a5), .val (.ref a6), .val (.int ((i4 &&& (2147483647 : Int32)) % (3 : Int32))), .val (.ref (own_kd rF rO rR i4)), .val (.ref a13), .unset] []))
          refine own_on (fun _ k => XT.iconstV X19.here hx rfl (1 : Int32) (hb hby at_121) (by decide) k) ?_
          show own_Go p.tables e below _ (T19.setTop (mkF m 122 #[.val (.int i1), .val (.int i2), .val (.int i3), .val (.int i4), .val (.int i5), .val (.ref a1), .val (.int (own_na i1 i2 i3 i4 i5)), .val (.ref a5), .val (.ref a6), .val (.int ((i4 &&& (2147483647 : Int32)) % (3 : Int32))), .val (.ref (own_kd rF rO rR i4)), .val (.ref a13), .unset] [(.int (1 : Int32))]))
          refine own_on (fun _ k => XS.goto X19.here hx rfl (pc0 := 122) (pc' := 126) rfl (hb hby at_122) (by decide) (by decide) k) ?_
          show own_Go p.tables e below _ (T19.setTop (mkF m 126 #[.val (.int i1), .val (.int i2), .val (.int i3), .val (.int i4), .val (.int i5), .val (.ref a1), .val (.int (own_na i1 i2 i3 i4 i5)), .val (.ref a5), .val (.ref a6), .val (.int ((i4 &&& (2147483647 : Int32)) % (3 : Int32))), .val (.ref (own_kd rF rO rR i4)), .val (.ref a13), .unset] [(.int (1 : Int32))]))
          exact own_here ⟨T19, _, X19, N19, e19, by rw [show (own_exp i1 i2 i3 i4 i5) = (1 : Int32) from by simp only [own_exp, if_pos hc18, if_neg hc20] <;> rfl]⟩
      · refine own_on (fun _ k => XS.ifYes X17.here hx rfl (pc0 := 105) (pc' := 121) rfl (hb hby at_105) rfl (XT.i0_ne_t hc18) (by decide) (by decide) k) ?_
        show own_Go p.tables e below _ (T17.setTop (mkF m 121 #[.val (.int i1), .val (.int i2), .val (.int i3), .val (.int i4), .val (.int i5), .val (.ref a1), .val (.int (own_na i1 i2 i3 i4 i5)), .val (.ref a5), .val (.ref a6), .val (.int ((i4 &&& (2147483647 : Int32)) % (3 : Int32))), .val (.ref (own_kd rF rO rR i4)), .val (.ref a13), .unset] []))
        refine own_on (fun _ k => XT.iconstV X17.here hx rfl (1 : Int32) (hb hby at_121) (by decide) k) ?_
        show own_Go p.tables e below _ (T17.setTop (mkF m 122 #[.val (.int i1), .val (.int i2), .val (.int i3), .val (.int i4), .val (.int i5), .val (.ref a1), .val (.int (own_na i1 i2 i3 i4 i5)), .val (.ref a5), .val (.ref a6), .val (.int ((i4 &&& (2147483647 : Int32)) % (3 : Int32))), .val (.ref (own_kd rF rO rR i4)), .val (.ref a13), .unset] [(.int (1 : Int32))]))
        refine own_on (fun _ k => XS.goto X17.here hx rfl (pc0 := 122) (pc' := 126) rfl (hb hby at_122) (by decide) (by decide) k) ?_
        show own_Go p.tables e below _ (T17.setTop (mkF m 126 #[.val (.int i1), .val (.int i2), .val (.int i3), .val (.int i4), .val (.int i5), .val (.ref a1), .val (.int (own_na i1 i2 i3 i4 i5)), .val (.ref a5), .val (.ref a6), .val (.int ((i4 &&& (2147483647 : Int32)) % (3 : Int32))), .val (.ref (own_kd rF rO rR i4)), .val (.ref a13), .unset] [(.int (1 : Int32))]))
        exact own_here ⟨T17, _, X17, N17, e17, by rw [show (own_exp i1 i2 i3 i4 i5) = (1 : Int32) from by simp only [own_exp, if_neg hc18] <;> rfl]⟩
    refine own_go st16 ?_
    show own_Fin p.tables e below _ (T16.setTop (mkF m 126 #[.val (.int i1), .val (.int i2), .val (.int i3), .val (.int i4), .val (.int i5), .val (.ref a1), .val (.int (own_na i1 i2 i3 i4 i5)), .val (.ref a5), .val (.ref a6), .val (.int ((i4 &&& (2147483647 : Int32)) % (3 : Int32))), .val (.ref (own_kd rF rO rR i4)), .val (.ref a13), .unset] [(.int (own_exp i1 i2 i3 i4 i5))]))
    refine own_go (fun _ k => XS.istore X16.here hx rfl (hb hby at_126) rfl (l' := #[.val (.int i1), .val (.int i2), .val (.int i3), .val (.int i4), .val (.int i5), .val (.ref a1), .val (.int (own_na i1 i2 i3 i4 i5)), .val (.ref a5), .val (.ref a6), .val (.int ((i4 &&& (2147483647 : Int32)) % (3 : Int32))), .val (.ref (own_kd rF rO rR i4)), .val (.ref a13), .val (.int (own_exp i1 i2 i3 i4 i5))]) rfl k) ?_
    show own_Fin p.tables e below _ (T16.setTop (mkF m 128 #[.val (.int i1), .val (.int i2), .val (.int i3), .val (.int i4), .val (.int i5), .val (.ref a1), .val (.int (own_na i1 i2 i3 i4 i5)), .val (.ref a5), .val (.ref a6), .val (.int ((i4 &&& (2147483647 : Int32)) % (3 : Int32))), .val (.ref (own_kd rF rO rR i4)), .val (.ref a13), .val (.int (own_exp i1 i2 i3 i4 i5))] []))
    refine own_go (fun _ k => XS.aload X16.here hx rfl (hb hby at_128) rfl rfl k) ?_
    show own_Fin p.tables e below _ (T16.setTop (mkF m 130 #[.val (.int i1), .val (.int i2), .val (.int i3), .val (.int i4), .val (.int i5), .val (.ref a1), .val (.int (own_na i1 i2 i3 i4 i5)), .val (.ref a5), .val (.ref a6), .val (.int ((i4 &&& (2147483647 : Int32)) % (3 : Int32))), .val (.ref (own_kd rF rO rR i4)), .val (.ref a13), .val (.int (own_exp i1 i2 i3 i4 i5))] [(.ref a13)]))
    refine own_go (fun _ k => XS.aload X16.here hx rfl (hb hby at_130) rfl rfl k) ?_
    show own_Fin p.tables e below _ (T16.setTop (mkF m 132 #[.val (.int i1), .val (.int i2), .val (.int i3), .val (.int i4), .val (.int i5), .val (.ref a1), .val (.int (own_na i1 i2 i3 i4 i5)), .val (.ref a5), .val (.ref a6), .val (.int ((i4 &&& (2147483647 : Int32)) % (3 : Int32))), .val (.ref (own_kd rF rO rR i4)), .val (.ref a13), .val (.int (own_exp i1 i2 i3 i4 i5))] [(.ref a6), (.ref a13)]))
    obtain ⟨_, T21, L21, X21, ⟨rfl, M21, e21⟩, st21⟩ := own_callV X16 hx hZ14 ho14 (hw _ (List.mem_of_getElem? (i := 67) rfl)) (hw _ (List.mem_of_getElem? (i := 68) rfl)) (hw _ (List.mem_of_getElem? (i := 70) rfl)) (hw _ (List.mem_of_getElem? (i := 69) rfl)) (hw _ (List.mem_of_getElem? (i := 46) rfl)) (hw _ (List.mem_of_getElem? (i := 71) rfl)) (by decide) (W := 0) (rm7 l Z a0 hw [] a13 a6 T15.heap n0 (Nat.le_trans Z0 K15.1) (own_cs i1) (own_cs i2) (own_cs i3) a1 a5 (T1.heap.size) (T5.heap.size) (T6.heap.size) G15_name G15_alias Stra1_15 Stra5_15 Stra6_15 ic SC hz O_15) (by decide) (by decide) e16 Ea13_15 (g := (mkF m 132 #[.val (.int i1), .val (.int i2), .val (.int i3), .val (.int i4), .val (.int i5), .val (.ref a1), .val (.int (own_na i1 i2 i3 i4 i5)), .val (.ref a5), .val (.ref a6), .val (.int ((i4 &&& (2147483647 : Int32)) % (3 : Int32))), .val (.ref (own_kd rF rO rR i4)), .val (.ref a13), .val (.int (own_exp i1 i2 i3 i4 i5))] [(.ref a6), (.ref a13)])) rfl (by rw [hml]; rfl) (argsL := [(.ref a6)]) (rest := []) rfl (lenOf pd8 rfl) rfl (by show 2 * 0 + _ ≤ _; exact Nat.le_of_eq rfl) (hb hby at_132) (by decide) (by decide)
    have N21 := Fr.app N16 M21
    refine own_go st21 ?_
    show own_Fin p.tables e below _ (T21.setTop (mkF m 135 #[.val (.int i1), .val (.int i2), .val (.int i3), .val (.int i4), .val (.int i5), .val (.ref a1), .val (.int (own_na i1 i2 i3 i4 i5)), .val (.ref a5), .val (.ref a6), .val (.int ((i4 &&& (2147483647 : Int32)) % (3 : Int32))), .val (.ref (own_kd rF rO rR i4)), .val (.ref a13), .val (.int (own_exp i1 i2 i3 i4 i5))] [(.int (f7 (own_cs i1) (own_cs i2) (own_cs i3)))]))
    refine own_go (fun _ k => XS.iload X21.here hx rfl (hb hby at_135) rfl k) ?_
    show own_Fin p.tables e below _ (T21.setTop (mkF m 137 #[.val (.int i1), .val (.int i2), .val (.int i3), .val (.int i4), .val (.int i5), .val (.ref a1), .val (.int (own_na i1 i2 i3 i4 i5)), .val (.ref a5), .val (.ref a6), .val (.int ((i4 &&& (2147483647 : Int32)) % (3 : Int32))), .val (.ref (own_kd rF rO rR i4)), .val (.ref a13), .val (.int (own_exp i1 i2 i3 i4 i5))] [(.int (own_exp i1 i2 i3 i4 i5)), (.int (f7 (own_cs i1) (own_cs i2) (own_cs i3)))]))
    by_cases hc22 : (f7 (own_cs i1) (own_cs i2) (own_cs i3)) = (own_exp i1 i2 i3 i4 i5)
    · refine own_go (fun _ k => XS.icmpNo X21.here hx rfl (hb hby at_137) rfl (XT.ii_ne_f hc22) k) ?_
      show own_Fin p.tables e below _ (T21.setTop (mkF m 140 #[.val (.int i1), .val (.int i2), .val (.int i3), .val (.int i4), .val (.int i5), .val (.ref a1), .val (.int (own_na i1 i2 i3 i4 i5)), .val (.ref a5), .val (.ref a6), .val (.int ((i4 &&& (2147483647 : Int32)) % (3 : Int32))), .val (.ref (own_kd rF rO rR i4)), .val (.ref a13), .val (.int (own_exp i1 i2 i3 i4 i5))] []))
      refine own_go (fun _ k => XT.iconstV X21.here hx rfl (1 : Int32) (hb hby at_140) (by decide) k) ?_
      show own_Fin p.tables e below _ (T21.setTop (mkF m 141 #[.val (.int i1), .val (.int i2), .val (.int i3), .val (.int i4), .val (.int i5), .val (.ref a1), .val (.int (own_na i1 i2 i3 i4 i5)), .val (.ref a5), .val (.ref a6), .val (.int ((i4 &&& (2147483647 : Int32)) % (3 : Int32))), .val (.ref (own_kd rF rO rR i4)), .val (.ref a13), .val (.int (own_exp i1 i2 i3 i4 i5))] [(.int (1 : Int32))]))
      refine own_go (fun _ k => XS.goto X21.here hx rfl (pc0 := 141) (pc' := 145) rfl (hb hby at_141) (by decide) (by decide) k) ?_
      show own_Fin p.tables e below _ (T21.setTop (mkF m 145 #[.val (.int i1), .val (.int i2), .val (.int i3), .val (.int i4), .val (.int i5), .val (.ref a1), .val (.int (own_na i1 i2 i3 i4 i5)), .val (.ref a5), .val (.ref a6), .val (.int ((i4 &&& (2147483647 : Int32)) % (3 : Int32))), .val (.ref (own_kd rF rO rR i4)), .val (.ref a13), .val (.int (own_exp i1 i2 i3 i4 i5))] [(.int (1 : Int32))]))
      refine own_retNW X21 hx hlk hS14 (by rw [e21]; exact (Nat.le_trans (Nat.le_refl _) KK15.1)) (t := .boolean) hret (by simp) (hb hby at_145) ?_ (by decide) (by decide)
      exact ⟨by rw [show f0 i1 i2 i3 i4 i5 = (1 : Int32) from by simp only [f0, if_pos hc4, if_pos hc22]]; rfl, N21⟩
    · refine own_go (fun _ k => XS.icmpYes X21.here hx rfl (pc0 := 137) (pc' := 144) rfl (hb hby at_137) rfl (XT.ii_ne_t hc22) (by decide) (by decide) k) ?_
      show own_Fin p.tables e below _ (T21.setTop (mkF m 144 #[.val (.int i1), .val (.int i2), .val (.int i3), .val (.int i4), .val (.int i5), .val (.ref a1), .val (.int (own_na i1 i2 i3 i4 i5)), .val (.ref a5), .val (.ref a6), .val (.int ((i4 &&& (2147483647 : Int32)) % (3 : Int32))), .val (.ref (own_kd rF rO rR i4)), .val (.ref a13), .val (.int (own_exp i1 i2 i3 i4 i5))] []))
      refine own_go (fun _ k => XT.iconstV X21.here hx rfl (0 : Int32) (hb hby at_144) (by decide) k) ?_
      show own_Fin p.tables e below _ (T21.setTop (mkF m 145 #[.val (.int i1), .val (.int i2), .val (.int i3), .val (.int i4), .val (.int i5), .val (.ref a1), .val (.int (own_na i1 i2 i3 i4 i5)), .val (.ref a5), .val (.ref a6), .val (.int ((i4 &&& (2147483647 : Int32)) % (3 : Int32))), .val (.ref (own_kd rF rO rR i4)), .val (.ref a13), .val (.int (own_exp i1 i2 i3 i4 i5))] [(.int (0 : Int32))]))
      refine own_retNW X21 hx hlk hS14 (by rw [e21]; exact (Nat.le_trans (Nat.le_refl _) KK15.1)) (t := .boolean) hret (by simp) (hb hby at_145) ?_ (by decide) (by decide)
      exact ⟨by rw [show f0 i1 i2 i3 i4 i5 = (0 : Int32) from by simp only [f0, if_pos hc4, if_neg hc22]]; rfl, N21⟩
  · refine own_go (fun _ k => XS.ifNo X2.here hx rfl (hb hby at_21) rfl (XT.i0_eq_f hc4) k) ?_
    show own_Fin p.tables e below _ (T2.setTop (mkF m 24 #[.val (.int i1), .val (.int i2), .val (.int i3), .val (.int i4), .val (.int i5), .val (.ref a1), .val (.int (own_na i1 i2 i3 i4 i5)), .unset, .unset, .unset, .unset, .unset, .unset] []))
    refine own_go (fun _ k => XS.aconstNull X2.here hx rfl (hb hby at_24) k) ?_
    show own_Fin p.tables e below _ (T2.setTop (mkF m 25 #[.val (.int i1), .val (.int i2), .val (.int i3), .val (.int i4), .val (.int i5), .val (.ref a1), .val (.int (own_na i1 i2 i3 i4 i5)), .unset, .unset, .unset, .unset, .unset, .unset] [.null]))
    refine own_go (fun _ k => XS.goto X2.here hx rfl (pc0 := 25) (pc' := 32) rfl (hb hby at_25) (by decide) (by decide) k) ?_
    show own_Fin p.tables e below _ (T2.setTop (mkF m 32 #[.val (.int i1), .val (.int i2), .val (.int i3), .val (.int i4), .val (.int i5), .val (.ref a1), .val (.int (own_na i1 i2 i3 i4 i5)), .unset, .unset, .unset, .unset, .unset, .unset] [.null]))
    refine own_go (fun _ k => XS.astore X2.here hx rfl (hb hby at_32) rfl rfl (l' := #[.val (.int i1), .val (.int i2), .val (.int i3), .val (.int i4), .val (.int i5), .val (.ref a1), .val (.int (own_na i1 i2 i3 i4 i5)), .val .null, .unset, .unset, .unset, .unset, .unset]) rfl k) ?_
    show own_Fin p.tables e below _ (T2.setTop (mkF m 34 #[.val (.int i1), .val (.int i2), .val (.int i3), .val (.int i4), .val (.int i5), .val (.ref a1), .val (.int (own_na i1 i2 i3 i4 i5)), .val .null, .unset, .unset, .unset, .unset, .unset] []))
    refine own_go (fun _ k => XS.iloadN X2.here hx rfl (hb hby at_34) rfl k) ?_
    show own_Fin p.tables e below _ (T2.setTop (mkF m 35 #[.val (.int i1), .val (.int i2), .val (.int i3), .val (.int i4), .val (.int i5), .val (.ref a1), .val (.int (own_na i1 i2 i3 i4 i5)), .val .null, .unset, .unset, .unset, .unset, .unset] [(.int i3)]))
    obtain ⟨_, T23, L23, X23, hZ23, hS23, ho23, ⟨a23, rfl, M23, KK23, q23, S23, LO23⟩, st23⟩ := own_callSW X2 hx hZ1 hS1 (by rw [e2]; exact (Nat.le_refl _)) ho1 (hw _ (List.mem_of_getElem? (i := 0) rfl)) (hw _ (List.mem_of_getElem? (i := 1) rfl)) (hw _ (List.mem_of_getElem? (i := 2) rfl)) (hw _ (List.mem_of_getElem? (i := 3) rfl)) (by decide) (W := 0) (rm2 l Z a0 hw [] i3 T1.heap n0 (Nat.le_trans Z0 K1.1) ic SC hz O_1 hheld hcw) (fun vm hv => own_LO.warm (LO1.mono (Nat.le_refl _)) hv) (by decide) (by decide) e2 (g := (mkF m 35 #[.val (.int i1), .val (.int i2), .val (.int i3), .val (.int i4), .val (.int i5), .val (.ref a1), .val (.int (own_na i1 i2 i3 i4 i5)), .val .null, .unset, .unset, .unset, .unset, .unset] [(.int i3)])) rfl (by rw [hml]; rfl) (argsL := [(.int i3)]) (rest := []) rfl (lenOf pd4 rfl) rfl (by show 2 * 0 + _ ≤ _; exact Nat.le_of_eq rfl) (hb hby at_35) (by decide) (by decide)
    have N23 := Fr.app N2 M23
    have Stra1_23 := S1.keep0 KK23
    have O_23 := O_1.keep KK23 all0
    have K23 := K1.trans KK23 all0
    refine own_go st23 ?_
    show own_Fin p.tables e below _ (T23.setTop (mkF m 38 #[.val (.int i1), .val (.int i2), .val (.int i3), .val (.int i4), .val (.int i5), .val (.ref a1), .val (.int (own_na i1 i2 i3 i4 i5)), .val .null, .unset, .unset, .unset, .unset, .unset] [(.ref a23)]))
    refine own_go (fun _ k => XS.astore X23.here hx rfl (hb hby at_38) rfl rfl (l' := #[.val (.int i1), .val (.int i2), .val (.int i3), .val (.int i4), .val (.int i5), .val (.ref a1), .val (.int (own_na i1 i2 i3 i4 i5)), .val .null, .val (.ref a23), .unset, .unset, .unset, .unset]) rfl k) ?_
    show own_Fin p.tables e below _ (T23.setTop (mkF m 40 #[.val (.int i1), .val (.int i2), .val (.int i3), .val (.int i4), .val (.int i5), .val (.ref a1), .val (.int (own_na i1 i2 i3 i4 i5)), .val .null, .val (.ref a23), .unset, .unset, .unset, .unset] []))
    refine own_go (fun _ k => XS.iloadN X23.here hx rfl (hb hby at_40) rfl k) ?_
    show own_Fin p.tables e below _ (T23.setTop (mkF m 41 #[.val (.int i1), .val (.int i2), .val (.int i3), .val (.int i4), .val (.int i5), .val (.ref a1), .val (.int (own_na i1 i2 i3 i4 i5)), .val .null, .val (.ref a23), .unset, .unset, .unset, .unset] [(.int i4)]))
    refine own_go (fun _ k => X23.ldcI hx ho23 (mvT hZ23 (hw _ (List.mem_of_getElem? (i := 40) rfl))) rfl (hb hby at_41) k) ?_
    show own_Fin p.tables e below _ (T23.setTop (mkF m 43 #[.val (.int i1), .val (.int i2), .val (.int i3), .val (.int i4), .val (.int i5), .val (.ref a1), .val (.int (own_na i1 i2 i3 i4 i5)), .val .null, .val (.ref a23), .unset, .unset, .unset, .unset] [(.int (2147483647 : Int32)), (.int i4)]))
    refine own_go (fun _ k => XS.iand X23.here hx rfl (hb hby at_43) rfl k) ?_
    show own_Fin p.tables e below _ (T23.setTop (mkF m 44 #[.val (.int i1), .val (.int i2), .val (.int i3), .val (.int i4), .val (.int i5), .val (.ref a1), .val (.int (own_na i1 i2 i3 i4 i5)), .val .null, .val (.ref a23), .unset, .unset, .unset, .unset] [(.int (i4 &&& (2147483647 : Int32)))]))
    refine own_go (fun _ k => XT.iconstV X23.here hx rfl (3 : Int32) (hb hby at_44) (by decide) k) ?_
    show own_Fin p.tables e below _ (T23.setTop (mkF m 45 #[.val (.int i1), .val (.int i2), .val (.int i3), .val (.int i4), .val (.int i5), .val (.ref a1), .val (.int (own_na i1 i2 i3 i4 i5)), .val .null, .val (.ref a23), .unset, .unset, .unset, .unset] [(.int (3 : Int32)), (.int (i4 &&& (2147483647 : Int32)))]))
    refine own_go (fun _ k => iremM X23 hx rfl (hb hby at_45) rfl (by decide) k) ?_
    show own_Fin p.tables e below _ (T23.setTop (mkF m 46 #[.val (.int i1), .val (.int i2), .val (.int i3), .val (.int i4), .val (.int i5), .val (.ref a1), .val (.int (own_na i1 i2 i3 i4 i5)), .val .null, .val (.ref a23), .unset, .unset, .unset, .unset] [(.int ((i4 &&& (2147483647 : Int32)) % (3 : Int32)))]))
    refine own_go (fun _ k => XS.istore X23.here hx rfl (hb hby at_46) rfl (l' := #[.val (.int i1), .val (.int i2), .val (.int i3), .val (.int i4), .val (.int i5), .val (.ref a1), .val (.int (own_na i1 i2 i3 i4 i5)), .val .null, .val (.ref a23), .val (.int ((i4 &&& (2147483647 : Int32)) % (3 : Int32))), .unset, .unset, .unset]) rfl k) ?_
    show own_Fin p.tables e below _ (T23.setTop (mkF m 48 #[.val (.int i1), .val (.int i2), .val (.int i3), .val (.int i4), .val (.int i5), .val (.ref a1), .val (.int (own_na i1 i2 i3 i4 i5)), .val .null, .val (.ref a23), .val (.int ((i4 &&& (2147483647 : Int32)) % (3 : Int32))), .unset, .unset, .unset] []))
    obtain ⟨_, ⟨T24, L24, X24, N24, e24, rfl⟩, st24⟩ : own_Go p.tables e below (fun t => ∃ T' L', Stand p l e room_1 (s.setVm T23.vm) m #[(.int i1), (.int i2), (.int i3), (.int i4), (.int i5)] below meth c T' L' 8 20 ∧ Fr n0 L' ∧ T'.heap = T23.heap ∧ t = T'.setTop (mkF m 80 #[.val (.int i1), .val (.int i2), .val (.int i3), .val (.int i4), .val (.int i5), .val (.ref a1), .val (.int (own_na i1 i2 i3 i4 i5)), .val .null, .val (.ref a23), .val (.int ((i4 &&& (2147483647 : Int32)) % (3 : Int32))), .val (.ref (own_kd_2 rF rO rR i4)), .unset, .unset] [])) (T23.setTop (mkF m 48 #[.val (.int i1), .val (.int i2), .val (.int i3), .val (.int i4), .val (.int i5), .val (.ref a1), .val (.int (own_na i1 i2 i3 i4 i5)), .val .null, .val (.ref a23), .val (.int ((i4 &&& (2147483647 : Int32)) % (3 : Int32))), .unset, .unset, .unset] [])) := by
      refine own_on (fun _ k => XS.iload X23.here hx rfl (hb hby at_48) rfl k) ?_
      show own_Go p.tables e below _ (T23.setTop (mkF m 50 #[.val (.int i1), .val (.int i2), .val (.int i3), .val (.int i4), .val (.int i5), .val (.ref a1), .val (.int (own_na i1 i2 i3 i4 i5)), .val .null, .val (.ref a23), .val (.int ((i4 &&& (2147483647 : Int32)) % (3 : Int32))), .unset, .unset, .unset] [(.int ((i4 &&& (2147483647 : Int32)) % (3 : Int32)))]))
      by_cases hc25 : ((i4 &&& (2147483647 : Int32)) % (3 : Int32)) = (0 : Int32)
      · refine own_on (fun _ k => XS.ifNo X23.here hx rfl (hb hby at_50) rfl (XT.i0_ne_f hc25) k) ?_
        show own_Go p.tables e below _ (T23.setTop (mkF m 53 #[.val (.int i1), .val (.int i2), .val (.int i3), .val (.int i4), .val (.int i5), .val (.ref a1), .val (.int (own_na i1 i2 i3 i4 i5)), .val .null, .val (.ref a23), .val (.int ((i4 &&& (2147483647 : Int32)) % (3 : Int32))), .unset, .unset, .unset] []))
        obtain ⟨T26, X26, e26, st26⟩ := getS (host := "") X23 hx hZ23 ho23 (hw _ (List.mem_of_getElem? (i := 82) rfl)) Via.refl rfl (SrF.ext O_23.2) (g := (mkF m 53 #[.val (.int i1), .val (.int i2), .val (.int i3), .val (.int i4), .val (.int i5), .val (.ref a1), .val (.int (own_na i1 i2 i3 i4 i5)), .val .null, .val (.ref a23), .val (.int ((i4 &&& (2147483647 : Int32)) % (3 : Int32))), .unset, .unset, .unset] [])) rfl (hb hby at_53)
        refine own_on st26 ?_
        show own_Go p.tables e below _ (T26.setTop (mkF m 56 #[.val (.int i1), .val (.int i2), .val (.int i3), .val (.int i4), .val (.int i5), .val (.ref a1), .val (.int (own_na i1 i2 i3 i4 i5)), .val .null, .val (.ref a23), .val (.int ((i4 &&& (2147483647 : Int32)) % (3 : Int32))), .unset, .unset, .unset] [(.ref rF)]))
        refine own_on (fun _ k => XS.astore X26.here hx rfl (hb hby at_56) rfl rfl (l' := #[.val (.int i1), .val (.int i2), .val (.int i3), .val (.int i4), .val (.int i5), .val (.ref a1), .val (.int (own_na i1 i2 i3 i4 i5)), .val .null, .val (.ref a23), .val (.int ((i4 &&& (2147483647 : Int32)) % (3 : Int32))), .val (.ref rF), .unset, .unset]) rfl k) ?_
        show own_Go p.tables e below _ (T26.setTop (mkF m 58 #[.val (.int i1), .val (.int i2), .val (.int i3), .val (.int i4), .val (.int i5), .val (.ref a1), .val (.int (own_na i1 i2 i3 i4 i5)), .val .null, .val (.ref a23), .val (.int ((i4 &&& (2147483647 : Int32)) % (3 : Int32))), .val (.ref rF), .unset, .unset] []))
        refine own_on (fun _ k => XS.goto X26.here hx rfl (pc0 := 58) (pc' := 80) rfl (hb hby at_58) (by decide) (by decide) k) ?_
        show own_Go p.tables e below _ (T26.setTop (mkF m 80 #[.val (.int i1), .val (.int i2), .val (.int i3), .val (.int i4), .val (.int i5), .val (.ref a1), .val (.int (own_na i1 i2 i3 i4 i5)), .val .null, .val (.ref a23), .val (.int ((i4 &&& (2147483647 : Int32)) % (3 : Int32))), .val (.ref rF), .unset, .unset] []))
        exact own_here ⟨T26, _, X26, N23, e26, by rw [show (own_kd_2 rF rO rR i4) = rF from by simp only [own_kd_2, if_pos hc25] <;> rfl]⟩
      · refine own_on (fun _ k => XS.ifYes X23.here hx rfl (pc0 := 50) (pc' := 61) rfl (hb hby at_50) rfl (XT.i0_ne_t hc25) (by decide) (by decide) k) ?_
        show own_Go p.tables e below _ (T23.setTop (mkF m 61 #[.val (.int i1), .val (.int i2), .val (.int i3), .val (.int i4), .val (.int i5), .val (.ref a1), .val (.int (own_na i1 i2 i3 i4 i5)), .val .null, .val (.ref a23), .val (.int ((i4 &&& (2147483647 : Int32)) % (3 : Int32))), .unset, .unset, .unset] []))
        refine own_on (fun _ k => XS.iload X23.here hx rfl (hb hby at_61) rfl k) ?_
        show own_Go p.tables e below _ (T23.setTop (mkF m 63 #[.val (.int i1), .val (.int i2), .val (.int i3), .val (.int i4), .val (.int i5), .val (.ref a1), .val (.int (own_na i1 i2 i3 i4 i5)), .val .null, .val (.ref a23), .val (.int ((i4 &&& (2147483647 : Int32)) % (3 : Int32))), .unset, .unset, .unset] [(.int ((i4 &&& (2147483647 : Int32)) % (3 : Int32)))]))
        refine own_on (fun _ k => XT.iconstV X23.here hx rfl (1 : Int32) (hb hby at_63) (by decide) k) ?_
        show own_Go p.tables e below _ (T23.setTop (mkF m 64 #[.val (.int i1), .val (.int i2), .val (.int i3), .val (.int i4), .val (.int i5), .val (.ref a1), .val (.int (own_na i1 i2 i3 i4 i5)), .val .null, .val (.ref a23), .val (.int ((i4 &&& (2147483647 : Int32)) % (3 : Int32))), .unset, .unset, .unset] [(.int (1 : Int32)), (.int ((i4 &&& (2147483647 : Int32)) % (3 : Int32)))]))
        by_cases hc27 : ((i4 &&& (2147483647 : Int32)) % (3 : Int32)) = (1 : Int32)
        · refine own_on (fun _ k => XS.icmpNo X23.here hx rfl (hb hby at_64) rfl (XT.ii_ne_f hc27) k) ?_
          show own_Go p.tables e below _ (T23.setTop (mkF m 67 #[.val (.int i1), .val (.int i2), .val (.int i3), .val (.int i4), .val (.int i5), .val (.ref a1), .val (.int (own_na i1 i2 i3 i4 i5)), .val .null, .val (.ref a23), .val (.int ((i4 &&& (2147483647 : Int32)) % (3 : Int32))), .unset, .unset, .unset] []))
          obtain ⟨T28, X28, e28, st28⟩ := getS (host := "") X23 hx hZ23 ho23 (hw _ (List.mem_of_getElem? (i := 41) rfl)) Via.refl rfl (SrO.ext O_23.2) (g := (mkF m 67 #[.val (.int i1), .val (.int i2), .val (.int i3), .val (.int i4), .val (.int i5), .val (.ref a1), .val (.int (own_na i1 i2 i3 i4 i5)), .val .null, .val (.ref a23), .val (.int ((i4 &&& (2147483647 : Int32)) % (3 : Int32))), .unset, .unset, .unset] [])) rfl (hb hby at_67)
          refine own_on st28 ?_
          show own_Go p.tables e below _ (T28.setTop (mkF m 70 #[.val (.int i1), .val (.int i2), .val (.int i3), .val (.int i4), .val (.int i5), .val (.ref a1), .val (.int (own_na i1 i2 i3 i4 i5)), .val .null, .val (.ref a23), .val (.int ((i4 &&& (2147483647 : Int32)) % (3 : Int32))), .unset, .unset, .unset] [(.ref rO)]))
          refine own_on (fun _ k => XS.astore X28.here hx rfl (hb hby at_70) rfl rfl (l' := #[.val (.int i1), .val (.int i2), .val (.int i3), .val (.int i4), .val (.int i5), .val (.ref a1), .val (.int (own_na i1 i2 i3 i4 i5)), .val .null, .val (.ref a23), .val (.int ((i4 &&& (2147483647 : Int32)) % (3 : Int32))), .val (.ref rO), .unset, .unset]) rfl k) ?_
          show own_Go p.tables e below _ (T28.setTop (mkF m 72 #[.val (.int i1), .val (.int i2), .val (.int i3), .val (.int i4), .val (.int i5), .val (.ref a1), .val (.int (own_na i1 i2 i3 i4 i5)), .val .null, .val (.ref a23), .val (.int ((i4 &&& (2147483647 : Int32)) % (3 : Int32))), .val (.ref rO), .unset, .unset] []))
          refine own_on (fun _ k => XS.goto X28.here hx rfl (pc0 := 72) (pc' := 80) rfl (hb hby at_72) (by decide) (by decide) k) ?_
          show own_Go p.tables e below _ (T28.setTop (mkF m 80 #[.val (.int i1), .val (.int i2), .val (.int i3), .val (.int i4), .val (.int i5), .val (.ref a1), .val (.int (own_na i1 i2 i3 i4 i5)), .val .null, .val (.ref a23), .val (.int ((i4 &&& (2147483647 : Int32)) % (3 : Int32))), .val (.ref rO), .unset, .unset] []))
          exact own_here ⟨T28, _, X28, N23, e28, by rw [show (own_kd_2 rF rO rR i4) = rO from by simp only [own_kd_2, if_neg hc25, if_pos hc27] <;> rfl]⟩
        · refine own_on (fun _ k => XS.icmpYes X23.here hx rfl (pc0 := 64) (pc' := 75) rfl (hb hby at_64) rfl (XT.ii_ne_t hc27) (by decide) (by decide) k) ?_
          show own_Go p.tables e below _ (T23.setTop (mkF m 75 #[.val (.int i1), .val (.int i2), .val (.int i3), .val (.int i4), .val (.int i5), .val (.ref a1), .val (.int (own_na i1 i2 i3 i4 i5)), .val .null, .val (.ref a23), .val (.int ((i4 &&& (2147483647 : Int32)) % (3 : Int32))), .unset, .unset, .unset] []))
          obtain ⟨T29, X29, e29, st29⟩ := getS (host := "") X23 hx hZ23 ho23 (hw _ (List.mem_of_getElem? (i := 84) rfl)) Via.refl rfl (SrR.ext O_23.2) (g := (mkF m 75 #[.val (.int i1), .val (.int i2), .val (.int i3), .val (.int i4), .val (.int i5), .val (.ref a1), .val (.int (own_na i1 i2 i3 i4 i5)), .val .null, .val (.ref a23), .val (.int ((i4 &&& (2147483647 : Int32)) % (3 : Int32))), .unset, .unset, .unset] [])) rfl (hb hby at_75)
          refine own_on st29 ?_
          show own_Go p.tables e below _ (T29.setTop (mkF m 78 #[.val (.int i1), .val (.int i2), .val (.int i3), .val (.int i4), .val (.int i5), .val (.ref a1), .val (.int (own_na i1 i2 i3 i4 i5)), .val .null, .val (.ref a23), .val (.int ((i4 &&& (2147483647 : Int32)) % (3 : Int32))), .unset, .unset, .unset] [(.ref rR)]))
          refine own_on (fun _ k => XS.astore X29.here hx rfl (hb hby at_78) rfl rfl (l' := #[.val (.int i1), .val (.int i2), .val (.int i3), .val (.int i4), .val (.int i5), .val (.ref a1), .val (.int (own_na i1 i2 i3 i4 i5)), .val .null, .val (.ref a23), .val (.int ((i4 &&& (2147483647 : Int32)) % (3 : Int32))), .val (.ref rR), .unset, .unset]) rfl k) ?_
          show own_Go p.tables e below _ (T29.setTop (mkF m 80 #[.val (.int i1), .val (.int i2), .val (.int i3), .val (.int i4), .val (.int i5), .val (.ref a1), .val (.int (own_na i1 i2 i3 i4 i5)), .val .null, .val (.ref a23), .val (.int ((i4 &&& (2147483647 : Int32)) % (3 : Int32))), .val (.ref rR), .unset, .unset] []))
          exact own_here ⟨T29, _, X29, N23, e29, by rw [show (own_kd_2 rF rO rR i4) = rR from by simp only [own_kd_2, if_neg hc25, if_neg hc27] <;> rfl]⟩
    refine own_go st24 ?_
    show own_Fin p.tables e below _ (T24.setTop (mkF m 80 #[.val (.int i1), .val (.int i2), .val (.int i3), .val (.int i4), .val (.int i5), .val (.ref a1), .val (.int (own_na i1 i2 i3 i4 i5)), .val .null, .val (.ref a23), .val (.int ((i4 &&& (2147483647 : Int32)) % (3 : Int32))), .val (.ref (own_kd_2 rF rO rR i4)), .unset, .unset] []))
    obtain ⟨T30, h30, X30, e30, E30, A30, D30, -, st30⟩ := newO X24 hx hZ23 ho23 (hw _ (List.mem_of_getElem? (i := 44) rfl)) (hw _ (List.mem_of_getElem? (i := 45) rfl)) (hw _ (List.mem_of_getElem? (i := 46) rfl)) e24 (g := (mkF m 80 #[.val (.int i1), .val (.int i2), .val (.int i3), .val (.int i4), .val (.int i5), .val (.ref a1), .val (.int (own_na i1 i2 i3 i4 i5)), .val .null, .val (.ref a23), .val (.int ((i4 &&& (2147483647 : Int32)) % (3 : Int32))), .val (.ref (own_kd_2 rF rO rR i4)), .unset, .unset] [])) rfl (hb hby at_80) (by decide) (by decide)
    obtain ⟨a30, g30⟩ : ∃ z, z = T23.heap.size := ⟨_, rfl⟩
    rw [← g30] at A30 D30 st30
    have q30 : h0.size ≤ a30 := Nat.le_trans K23.1 (Nat.le_of_eq g30.symm)
    have z30 : n0 ≤ a30 := Nat.le_trans Z0 q30
    have O_30 := O_23.ext E30
    have Stra1_30 := Stra1_23.ext E30
    have Stra23_30 := S23.ext E30
    have LO_30 := LO23.ext E30
    have K30 := K23.ext E30
    have Fa30_name : Fld Z h30 a30 "com/example/tremorgrid/tremorgrid/app/Arguments$Option" "name" "Ljava/lang/String;" .null := D30 (Or.inr (hw _ (List.mem_of_getElem? (i := 57) rfl))) (ty := (.object "java/lang/String")) (by decide)
    have Fa30_alias : Fld Z h30 a30 "com/example/tremorgrid/tremorgrid/app/Arguments$Option" "alias" "Ljava/lang/String;" .null := D30 (Or.inr (hw _ (List.mem_of_getElem? (i := 59) rfl))) (ty := (.object "java/lang/String")) (by decide)
    have Fa30_kind : Fld Z h30 a30 "com/example/tremorgrid/tremorgrid/app/Arguments$Option" "kind" "Lcom/example/tremorgrid/tremorgrid/app/Arguments$Kind;" .null := D30 (Or.inr (hw _ (List.mem_of_getElem? (i := 61) rfl))) (ty := (.object "com/example/tremorgrid/tremorgrid/app/Arguments$Kind")) (by decide)
    have Fa30_value : Fld Z h30 a30 "com/example/tremorgrid/tremorgrid/app/Arguments$Option" "value" "Ljava/lang/String;" .null := D30 (Or.inr (hw _ (List.mem_of_getElem? (i := 63) rfl))) (ty := (.object "java/lang/String")) (by decide)
    refine own_go st30 ?_
    show own_Fin p.tables e below _ (T30.setTop (mkF m 83 #[.val (.int i1), .val (.int i2), .val (.int i3), .val (.int i4), .val (.int i5), .val (.ref a1), .val (.int (own_na i1 i2 i3 i4 i5)), .val .null, .val (.ref a23), .val (.int ((i4 &&& (2147483647 : Int32)) % (3 : Int32))), .val (.ref (own_kd_2 rF rO rR i4)), .unset, .unset] [(.ref a30)]))
    refine own_go (fun _ k => XS.dup X30.here hx rfl (hb hby at_83) rfl rfl k) ?_
    show own_Fin p.tables e below _ (T30.setTop (mkF m 84 #[.val (.int i1), .val (.int i2), .val (.int i3), .val (.int i4), .val (.int i5), .val (.ref a1), .val (.int (own_na i1 i2 i3 i4 i5)), .val .null, .val (.ref a23), .val (.int ((i4 &&& (2147483647 : Int32)) % (3 : Int32))), .val (.ref (own_kd_2 rF rO rR i4)), .unset, .unset] [(.ref a30), (.ref a30)]))
    refine own_go (fun _ k => XS.aload X30.here hx rfl (hb hby at_84) rfl rfl k) ?_
    show own_Fin p.tables e below _ (T30.setTop (mkF m 86 #[.val (.int i1), .val (.int i2), .val (.int i3), .val (.int i4), .val (.int i5), .val (.ref a1), .val (.int (own_na i1 i2 i3 i4 i5)), .val .null, .val (.ref a23), .val (.int ((i4 &&& (2147483647 : Int32)) % (3 : Int32))), .val (.ref (own_kd_2 rF rO rR i4)), .unset, .unset] [(.ref a1), (.ref a30), (.ref a30)]))
    refine own_go (fun _ k => XS.aload X30.here hx rfl (hb hby at_86) rfl rfl k) ?_
    show own_Fin p.tables e below _ (T30.setTop (mkF m 88 #[.val (.int i1), .val (.int i2), .val (.int i3), .val (.int i4), .val (.int i5), .val (.ref a1), .val (.int (own_na i1 i2 i3 i4 i5)), .val .null, .val (.ref a23), .val (.int ((i4 &&& (2147483647 : Int32)) % (3 : Int32))), .val (.ref (own_kd_2 rF rO rR i4)), .unset, .unset] [.null, (.ref a1), (.ref a30), (.ref a30)]))
    refine own_go (fun _ k => XS.aload X30.here hx rfl (hb hby at_88) rfl rfl k) ?_
    show own_Fin p.tables e below _ (T30.setTop (mkF m 90 #[.val (.int i1), .val (.int i2), .val (.int i3), .val (.int i4), .val (.int i5), .val (.ref a1), .val (.int (own_na i1 i2 i3 i4 i5)), .val .null, .val (.ref a23), .val (.int ((i4 &&& (2147483647 : Int32)) % (3 : Int32))), .val (.ref (own_kd_2 rF rO rR i4)), .unset, .unset] [(.ref (own_kd_2 rF rO rR i4)), .null, (.ref a1), (.ref a30), (.ref a30)]))
    refine own_go (fun _ k => XS.iload X30.here hx rfl (hb hby at_90) rfl k) ?_
    show own_Fin p.tables e below _ (T30.setTop (mkF m 92 #[.val (.int i1), .val (.int i2), .val (.int i3), .val (.int i4), .val (.int i5), .val (.ref a1), .val (.int (own_na i1 i2 i3 i4 i5)), .val .null, .val (.ref a23), .val (.int ((i4 &&& (2147483647 : Int32)) % (3 : Int32))), .val (.ref (own_kd_2 rF rO rR i4)), .unset, .unset] [(.int i5), (.ref (own_kd_2 rF rO rR i4)), .null, (.ref a1), (.ref a30), (.ref a30)]))
    obtain ⟨_, T31, L31, X31, hZ31, hS31, ho31, ⟨a31, rfl, M31, KK31, q31, S31, LO31⟩, st31⟩ := own_callSW X30 hx hZ23 hS23 (by rw [e30]; exact (Nat.le_trans (Nat.le_refl _) E30.1)) ho23 (hw _ (List.mem_of_getElem? (i := 0) rfl)) (hw _ (List.mem_of_getElem? (i := 1) rfl)) (hw _ (List.mem_of_getElem? (i := 2) rfl)) (hw _ (List.mem_of_getElem? (i := 3) rfl)) (by decide) (W := 5) (rm2 l Z a0 hw [] i5 h30 n0 (Nat.le_trans Z0 K30.1) ic SC hz O_30 hheld hcw) (fun vm hv => own_LO.warm (LO_30.mono (Nat.le_trans (Nat.le_refl _) E30.1)) hv) (by decide) (by decide) e30 (g := (mkF m 92 #[.val (.int i1), .val (.int i2), .val (.int i3), .val (.int i4), .val (.int i5), .val (.ref a1), .val (.int (own_na i1 i2 i3 i4 i5)), .val .null, .val (.ref a23), .val (.int ((i4 &&& (2147483647 : Int32)) % (3 : Int32))), .val (.ref (own_kd_2 rF rO rR i4)), .unset, .unset] [(.int i5), (.ref (own_kd_2 rF rO rR i4)), .null, (.ref a1), (.ref a30), (.ref a30)])) rfl (by rw [hml]; rfl) (argsL := [(.int i5)]) (rest := [(.ref (own_kd_2 rF rO rR i4)), .null, (.ref a1), (.ref a30), (.ref a30)]) rfl (lenOf pd4 rfl) rfl (by show 2 * 0 + _ ≤ _; exact Nat.le_of_eq rfl) (hb hby at_92) (by decide) (by decide)
    have N31 := Fr.app N24 M31
    have Stra1_31 := Stra1_30.keep0 KK31
    have Stra23_31 := Stra23_30.keep0 KK31
    have O_31 := O_30.keep KK31 all0
    have Ea30_31 := A30.keep KK31
    have Fa30_name_31 := Fa30_name.keep KK31 nin0
    have Fa30_alias_31 := Fa30_alias.keep KK31 nin0
    have Fa30_kind_31 := Fa30_kind.keep KK31 nin0
    have Fa30_value_31 := Fa30_value.keep KK31 nin0
    have K31 := K30.trans KK31 all0
    refine own_go st31 ?_
    show own_Fin p.tables e below _ (T31.setTop (mkF m 95 #[.val (.int i1), .val (.int i2), .val (.int i3), .val (.int i4), .val (.int i5), .val (.ref a1), .val (.int (own_na i1 i2 i3 i4 i5)), .val .null, .val (.ref a23), .val (.int ((i4 &&& (2147483647 : Int32)) % (3 : Int32))), .val (.ref (own_kd_2 rF rO rR i4)), .unset, .unset] [(.ref a31), (.ref (own_kd_2 rF rO rR i4)), .null, (.ref a1), (.ref a30), (.ref a30)]))
    obtain ⟨_, T32, L32, X32, ⟨rfl, M32, KK32, -, G32_name, G32_alias, G32_kind, G32_value⟩, st32⟩ := own_callC X31 hx hZ31 ho31 rfl (hw _ (List.mem_of_getElem? (i := 47) rfl)) (hw _ (List.mem_of_getElem? (i := 48) rfl)) (hw _ (List.mem_of_getElem? (i := 46) rfl)) (hw _ (List.mem_of_getElem? (i := 49) rfl)) (by decide) (W := 1) (rm6 l Z a0 hw [] a30 a1 (own_kd_2 rF rO rR i4) a31 .null .null .null .null T31.heap n0 (Nat.le_trans Z0 K31.1) Ea30_31 Fa30_name_31 Fa30_alias_31 Fa30_kind_31 Fa30_value_31 z30 ) (by decide) (by decide) rfl (g := (mkF m 95 #[.val (.int i1), .val (.int i2), .val (.int i3), .val (.int i4), .val (.int i5), .val (.ref a1), .val (.int (own_na i1 i2 i3 i4 i5)), .val .null, .val (.ref a23), .val (.int ((i4 &&& (2147483647 : Int32)) % (3 : Int32))), .val (.ref (own_kd_2 rF rO rR i4)), .unset, .unset] [(.ref a31), (.ref (own_kd_2 rF rO rR i4)), .null, (.ref a1), (.ref a30), (.ref a30)])) rfl (by rw [hml]; rfl) (argsL := [(.ref a1), .null, (.ref (own_kd_2 rF rO rR i4)), (.ref a31)]) (rest := [(.ref a30)]) rfl (lenOf pd7 rfl) rfl (by show 2 * 0 + _ ≤ _; exact Nat.le_of_eq rfl) (hb hby at_95) (by decide) (by decide)
    have N32 := Fr.app N31 M32
    have Stra1_32 := Stra1_31.keepC KK32 Ea30_31 (by decide) (hw _ (List.mem_of_getElem? (i := 45) rfl))
    have Stra23_32 := Stra23_31.keepC KK32 Ea30_31 (by decide) (hw _ (List.mem_of_getElem? (i := 45) rfl))
    have Stra31_32 := S31.keepC KK32 Ea30_31 (by decide) (hw _ (List.mem_of_getElem? (i := 45) rfl))
    have LO_32 := LO31.keepC KK32 Ea30_31 (by decide) (hw _ (List.mem_of_getElem? (i := 45) rfl))
    have O_32 := O_31.keep KK32 (allS z30 all0)
    have Ea30_32 := Ea30_31.keep KK32
    have K32 := K31.trans KK32 (allS (Or.inr q30) all0)
    refine own_go st32 ?_
    show own_Fin p.tables e below _ (T32.setTop (mkF m 98 #[.val (.int i1), .val (.int i2), .val (.int i3), .val (.int i4), .val (.int i5), .val (.ref a1), .val (.int (own_na i1 i2 i3 i4 i5)), .val .null, .val (.ref a23), .val (.int ((i4 &&& (2147483647 : Int32)) % (3 : Int32))), .val (.ref (own_kd_2 rF rO rR i4)), .unset, .unset] [(.ref a30)]))
    refine own_go (fun _ k => XS.astore X32.here hx rfl (hb hby at_98) rfl rfl (l' := #[.val (.int i1), .val (.int i2), .val (.int i3), .val (.int i4), .val (.int i5), .val (.ref a1), .val (.int (own_na i1 i2 i3 i4 i5)), .val .null, .val (.ref a23), .val (.int ((i4 &&& (2147483647 : Int32)) % (3 : Int32))), .val (.ref (own_kd_2 rF rO rR i4)), .val (.ref a30), .unset]) rfl k) ?_
    show own_Fin p.tables e below _ (T32.setTop (mkF m 100 #[.val (.int i1), .val (.int i2), .val (.int i3), .val (.int i4), .val (.int i5), .val (.ref a1), .val (.int (own_na i1 i2 i3 i4 i5)), .val .null, .val (.ref a23), .val (.int ((i4 &&& (2147483647 : Int32)) % (3 : Int32))), .val (.ref (own_kd_2 rF rO rR i4)), .val (.ref a30), .unset] []))
    obtain ⟨_, ⟨T33, L33, X33, N33, e33, rfl⟩, st33⟩ : own_Go p.tables e below (fun t => ∃ T' L', Stand p l e room_1 (s.setVm T31.vm) m #[(.int i1), (.int i2), (.int i3), (.int i4), (.int i5)] below meth c T' L' 13 34 ∧ Fr n0 L' ∧ T'.heap = T32.heap ∧ t = T'.setTop (mkF m 126 #[.val (.int i1), .val (.int i2), .val (.int i3), .val (.int i4), .val (.int i5), .val (.ref a1), .val (.int (own_na i1 i2 i3 i4 i5)), .val .null, .val (.ref a23), .val (.int ((i4 &&& (2147483647 : Int32)) % (3 : Int32))), .val (.ref (own_kd_2 rF rO rR i4)), .val (.ref a30), .unset] [(.int (own_exp_2 i1 i2 i3 i4 i5))])) (T32.setTop (mkF m 100 #[.val (.int i1), .val (.int i2), .val (.int i3), .val (.int i4), .val (.int i5), .val (.ref a1), .val (.int (own_na i1 i2 i3 i4 i5)), .val .null, .val (.ref a23), .val (.int ((i4 &&& (2147483647 : Int32)) % (3 : Int32))), .val (.ref (own_kd_2 rF rO rR i4)), .val (.ref a30), .unset] [])) := by
      refine own_on (fun _ k => XS.iloadN X32.here hx rfl (hb hby at_100) rfl k) ?_
      show own_Go p.tables e below _ (T32.setTop (mkF m 101 #[.val (.int i1), .val (.int i2), .val (.int i3), .val (.int i4), .val (.int i5), .val (.ref a1), .val (.int (own_na i1 i2 i3 i4 i5)), .val .null, .val (.ref a23), .val (.int ((i4 &&& (2147483647 : Int32)) % (3 : Int32))), .val (.ref (own_kd_2 rF rO rR i4)), .val (.ref a30), .unset] [(.int i1)]))
      refine own_on (fun _ k => XS.iloadN X32.here hx rfl (hb hby at_101) rfl k) ?_
      show own_Go p.tables e below _ (T32.setTop (mkF m 102 #[.val (.int i1), .val (.int i2), .val (.int i3), .val (.int i4), .val (.int i5), .val (.ref a1), .val (.int (own_na i1 i2 i3 i4 i5)), .val .null, .val (.ref a23), .val (.int ((i4 &&& (2147483647 : Int32)) % (3 : Int32))), .val (.ref (own_kd_2 rF rO rR i4)), .val (.ref a30), .unset] [(.int i3), (.int i1)]))
      obtain ⟨_, T34, L34, X34, ⟨rfl, M34, e34⟩, st34⟩ := own_callS X32 hx hZ31 ho31 (hw _ (List.mem_of_getElem? (i := 64) rfl)) (hw _ (List.mem_of_getElem? (i := 65) rfl)) (hw _ (List.mem_of_getElem? (i := 2) rfl)) (hw _ (List.mem_of_getElem? (i := 66) rfl)) (by decide) (W := 0) (rm3 l Z a0 hw [] i1 i3 T32.heap n0 (Nat.le_trans Z0 K32.1) ) (by decide) (by decide) rfl (g := (mkF m 102 #[.val (.int i1), .val (.int i2), .val (.int i3), .val (.int i4), .val (.int i5), .val (.ref a1), .val (.int (own_na i1 i2 i3 i4 i5)), .val .null, .val (.ref a23), .val (.int ((i4 &&& (2147483647 : Int32)) % (3 : Int32))), .val (.ref (own_kd_2 rF rO rR i4)), .val (.ref a30), .unset] [(.int i3), (.int i1)])) rfl (by rw [hml]; rfl) (argsL := [(.int i1), (.int i3)]) (rest := []) rfl (lenOf pd5 rfl) rfl (by show 2 * 0 + _ ≤ _; exact Nat.le_of_eq rfl) (hb hby at_102) (by decide) (by decide)
      have N34 := Fr.app N32 M34
      refine own_on st34 ?_
      show own_Go p.tables e below _ (T34.setTop (mkF m 105 #[.val (.int i1), .val (.int i2), .val (.int i3), .val (.int i4), .val (.int i5), .val (.ref a1), .val (.int (own_na i1 i2 i3 i4 i5)), .val .null, .val (.ref a23), .val (.int ((i4 &&& (2147483647 : Int32)) % (3 : Int32))), .val (.ref (own_kd_2 rF rO rR i4)), .val (.ref a30), .unset] [(.int (f3 i1 i3))]))
      by_cases hc35 : (f3 i1 i3) = (0 : Int32)
      · refine own_on (fun _ k => XS.ifNo X34.here hx rfl (hb hby at_105) rfl (XT.i0_ne_f hc35) k) ?_
        show own_Go p.tables e below _ (T34.setTop (mkF m 108 #[.val (.int i1), .val (.int i2), .val (.int i3), .val (.int i4), .val (.int i5), .val (.ref a1), .val (.int (own_na i1 i2 i3 i4 i5)), .val .null, .val (.ref a23), .val (.int ((i4 &&& (2147483647 : Int32)) % (3 : Int32))), .val (.ref (own_kd_2 rF rO rR i4)), .val (.ref a30), .unset] []))
        refine own_on (fun _ k => XS.iload X34.here hx rfl (hb hby at_108) rfl k) ?_
        show own_Go p.tables e below _ (T34.setTop (mkF m 110 #[.val (.int i1), .val (.int i2), .val (.int i3), .val (.int i4), .val (.int i5), .val (.ref a1), .val (.int (own_na i1 i2 i3 i4 i5)), .val .null, .val (.ref a23), .val (.int ((i4 &&& (2147483647 : Int32)) % (3 : Int32))), .val (.ref (own_kd_2 rF rO rR i4)), .val (.ref a30), .unset] [(.int (own_na i1 i2 i3 i4 i5))]))
        refine own_on (fun _ k => XS.ifYes X34.here hx rfl (pc0 := 110) (pc' := 125) rfl (hb hby at_110) rfl (XT.i0_ne_t hc4) (by decide) (by decide) k) ?_
        show own_Go p.tables e below _ (T34.setTop (mkF m 125 #[.val (.int i1), .val (.int i2), .val (.int i3), .val (.int i4), .val (.int i5), .val (.ref a1), .val (.int (own_na i1 i2 i3 i4 i5)), .val .null, .val (.ref a23), .val (.int ((i4 &&& (2147483647 : Int32)) % (3 : Int32))), .val (.ref (own_kd_2 rF rO rR i4)), .val (.ref a30), .unset] []))
        refine own_on (fun _ k => XT.iconstV X34.here hx rfl (0 : Int32) (hb hby at_125) (by decide) k) ?_
        show own_Go p.tables e below _ (T34.setTop (mkF m 126 #[.val (.int i1), .val (.int i2), .val (.int i3), .val (.int i4), .val (.int i5), .val (.ref a1), .val (.int (own_na i1 i2 i3 i4 i5)), .val .null, .val (.ref a23), .val (.int ((i4 &&& (2147483647 : Int32)) % (3 : Int32))), .val (.ref (own_kd_2 rF rO rR i4)), .val (.ref a30), .unset] [(.int (0 : Int32))]))
        exact own_here ⟨T34, _, X34, N34, e34, by rw [show (own_exp_2 i1 i2 i3 i4 i5) = (0 : Int32) from by simp only [own_exp_2, if_pos hc35] <;> rfl]⟩
      · refine own_on (fun _ k => XS.ifYes X34.here hx rfl (pc0 := 105) (pc' := 121) rfl (hb hby at_105) rfl (XT.i0_ne_t hc35) (by decide) (by decide) k) ?_
        show own_Go p.tables e below _ (T34.setTop (mkF m 121 #[.val (.int i1), .val (.int i2), .val (.int i3), .val (.int i4), .val (.int i5), .val (.ref a1), .val (.int (own_na i1 i2 i3 i4 i5)), .val .null, .val (.ref a23), .val (.int ((i4 &&& (2147483647 : Int32)) % (3 : Int32))), .val (.ref (own_kd_2 rF rO rR i4)), .val (.ref a30), .unset] []))
        refine own_on (fun _ k => XT.iconstV X34.here hx rfl (1 : Int32) (hb hby at_121) (by decide) k) ?_
        show own_Go p.tables e below _ (T34.setTop (mkF m 122 #[.val (.int i1), .val (.int i2), .val (.int i3), .val (.int i4), .val (.int i5), .val (.ref a1), .val (.int (own_na i1 i2 i3 i4 i5)), .val .null, .val (.ref a23), .val (.int ((i4 &&& (2147483647 : Int32)) % (3 : Int32))), .val (.ref (own_kd_2 rF rO rR i4)), .val (.ref a30), .unset] [(.int (1 : Int32))]))
        refine own_on (fun _ k => XS.goto X34.here hx rfl (pc0 := 122) (pc' := 126) rfl (hb hby at_122) (by decide) (by decide) k) ?_
        show own_Go p.tables e below _ (T34.setTop (mkF m 126 #[.val (.int i1), .val (.int i2), .val (.int i3), .val (.int i4), .val (.int i5), .val (.ref a1), .val (.int (own_na i1 i2 i3 i4 i5)), .val .null, .val (.ref a23), .val (.int ((i4 &&& (2147483647 : Int32)) % (3 : Int32))), .val (.ref (own_kd_2 rF rO rR i4)), .val (.ref a30), .unset] [(.int (1 : Int32))]))
        exact own_here ⟨T34, _, X34, N34, e34, by rw [show (own_exp_2 i1 i2 i3 i4 i5) = (1 : Int32) from by simp only [own_exp_2, if_neg hc35] <;> rfl]⟩
    refine own_go st33 ?_
    show own_Fin p.tables e below _ (T33.setTop (mkF m 126 #[.val (.int i1), .val (.int i2), .val (.int i3), .val (.int i4), .val (.int i5), .val (.ref a1), .val (.int (own_na i1 i2 i3 i4 i5)), .val .null, .val (.ref a23), .val (.int ((i4 &&& (2147483647 : Int32)) % (3 : Int32))), .val (.ref (own_kd_2 rF rO rR i4)), .val (.ref a30), .unset] [(.int (own_exp_2 i1 i2 i3 i4 i5))]))
    refine own_go (fun _ k => XS.istore X33.here hx rfl (hb hby at_126) rfl (l' := #[.val (.int i1), .val (.int i2), .val (.int i3), .val (.int i4), .val (.int i5), .val (.ref a1), .val (.int (own_na i1 i2 i3 i4 i5)), .val .null, .val (.ref a23), .val (.int ((i4 &&& (2147483647 : Int32)) % (3 : Int32))), .val (.ref (own_kd_2 rF rO rR i4)), .val (.ref a30), .val (.int (own_exp_2 i1 i2 i3 i4 i5))]) rfl k) ?_
    show own_Fin p.tables e below _ (T33.setTop (mkF m 128 #[.val (.int i1), .val (.int i2), .val (.int i3), .val (.int i4), .val (.int i5), .val (.ref a1), .val (.int (own_na i1 i2 i3 i4 i5)), .val .null, .val (.ref a23), .val (.int ((i4 &&& (2147483647 : Int32)) % (3 : Int32))), .val (.ref (own_kd_2 rF rO rR i4)), .val (.ref a30), .val (.int (own_exp_2 i1 i2 i3 i4 i5))] []))
    refine own_go (fun _ k => XS.aload X33.here hx rfl (hb hby at_128) rfl rfl k) ?_
    show own_Fin p.tables e below _ (T33.setTop (mkF m 130 #[.val (.int i1), .val (.int i2), .val (.int i3), .val (.int i4), .val (.int i5), .val (.ref a1), .val (.int (own_na i1 i2 i3 i4 i5)), .val .null, .val (.ref a23), .val (.int ((i4 &&& (2147483647 : Int32)) % (3 : Int32))), .val (.ref (own_kd_2 rF rO rR i4)), .val (.ref a30), .val (.int (own_exp_2 i1 i2 i3 i4 i5))] [(.ref a30)]))
    refine own_go (fun _ k => XS.aload X33.here hx rfl (hb hby at_130) rfl rfl k) ?_
    show own_Fin p.tables e below _ (T33.setTop (mkF m 132 #[.val (.int i1), .val (.int i2), .val (.int i3), .val (.int i4), .val (.int i5), .val (.ref a1), .val (.int (own_na i1 i2 i3 i4 i5)), .val .null, .val (.ref a23), .val (.int ((i4 &&& (2147483647 : Int32)) % (3 : Int32))), .val (.ref (own_kd_2 rF rO rR i4)), .val (.ref a30), .val (.int (own_exp_2 i1 i2 i3 i4 i5))] [(.ref a23), (.ref a30)]))
    obtain ⟨_, T36, L36, X36, ⟨rfl, M36, e36⟩, st36⟩ := own_callV X33 hx hZ31 ho31 (hw _ (List.mem_of_getElem? (i := 67) rfl)) (hw _ (List.mem_of_getElem? (i := 68) rfl)) (hw _ (List.mem_of_getElem? (i := 70) rfl)) (hw _ (List.mem_of_getElem? (i := 69) rfl)) (hw _ (List.mem_of_getElem? (i := 46) rfl)) (hw _ (List.mem_of_getElem? (i := 71) rfl)) (by decide) (W := 0) (rm8 l Z a0 hw [] a30 a23 T32.heap n0 (Nat.le_trans Z0 K32.1) (own_cs i1) (own_cs i3) a1 (T1.heap.size) (T23.heap.size) G32_name G32_alias Stra1_32 Stra23_32 ic SC hz O_32) (by decide) (by decide) e33 Ea30_32 (g := (mkF m 132 #[.val (.int i1), .val (.int i2), .val (.int i3), .val (.int i4), .val (.int i5), .val (.ref a1), .val (.int (own_na i1 i2 i3 i4 i5)), .val .null, .val (.ref a23), .val (.int ((i4 &&& (2147483647 : Int32)) % (3 : Int32))), .val (.ref (own_kd_2 rF rO rR i4)), .val (.ref a30), .val (.int (own_exp_2 i1 i2 i3 i4 i5))] [(.ref a23), (.ref a30)])) rfl (by rw [hml]; rfl) (argsL := [(.ref a23)]) (rest := []) rfl (lenOf pd8 rfl) rfl (by show 2 * 0 + _ ≤ _; exact Nat.le_of_eq rfl) (hb hby at_132) (by decide) (by decide)
    have N36 := Fr.app N33 M36
    refine own_go st36 ?_
    show own_Fin p.tables e below _ (T36.setTop (mkF m 135 #[.val (.int i1), .val (.int i2), .val (.int i3), .val (.int i4), .val (.int i5), .val (.ref a1), .val (.int (own_na i1 i2 i3 i4 i5)), .val .null, .val (.ref a23), .val (.int ((i4 &&& (2147483647 : Int32)) % (3 : Int32))), .val (.ref (own_kd_2 rF rO rR i4)), .val (.ref a30), .val (.int (own_exp_2 i1 i2 i3 i4 i5))] [(.int (f8 (own_cs i1) (own_cs i3)))]))
    refine own_go (fun _ k => XS.iload X36.here hx rfl (hb hby at_135) rfl k) ?_
    show own_Fin p.tables e below _ (T36.setTop (mkF m 137 #[.val (.int i1), .val (.int i2), .val (.int i3), .val (.int i4), .val (.int i5), .val (.ref a1), .val (.int (own_na i1 i2 i3 i4 i5)), .val .null, .val (.ref a23), .val (.int ((i4 &&& (2147483647 : Int32)) % (3 : Int32))), .val (.ref (own_kd_2 rF rO rR i4)), .val (.ref a30), .val (.int (own_exp_2 i1 i2 i3 i4 i5))] [(.int (own_exp_2 i1 i2 i3 i4 i5)), (.int (f8 (own_cs i1) (own_cs i3)))]))
    by_cases hc37 : (f8 (own_cs i1) (own_cs i3)) = (own_exp_2 i1 i2 i3 i4 i5)
    · refine own_go (fun _ k => XS.icmpNo X36.here hx rfl (hb hby at_137) rfl (XT.ii_ne_f hc37) k) ?_
      show own_Fin p.tables e below _ (T36.setTop (mkF m 140 #[.val (.int i1), .val (.int i2), .val (.int i3), .val (.int i4), .val (.int i5), .val (.ref a1), .val (.int (own_na i1 i2 i3 i4 i5)), .val .null, .val (.ref a23), .val (.int ((i4 &&& (2147483647 : Int32)) % (3 : Int32))), .val (.ref (own_kd_2 rF rO rR i4)), .val (.ref a30), .val (.int (own_exp_2 i1 i2 i3 i4 i5))] []))
      refine own_go (fun _ k => XT.iconstV X36.here hx rfl (1 : Int32) (hb hby at_140) (by decide) k) ?_
      show own_Fin p.tables e below _ (T36.setTop (mkF m 141 #[.val (.int i1), .val (.int i2), .val (.int i3), .val (.int i4), .val (.int i5), .val (.ref a1), .val (.int (own_na i1 i2 i3 i4 i5)), .val .null, .val (.ref a23), .val (.int ((i4 &&& (2147483647 : Int32)) % (3 : Int32))), .val (.ref (own_kd_2 rF rO rR i4)), .val (.ref a30), .val (.int (own_exp_2 i1 i2 i3 i4 i5))] [(.int (1 : Int32))]))
      refine own_go (fun _ k => XS.goto X36.here hx rfl (pc0 := 141) (pc' := 145) rfl (hb hby at_141) (by decide) (by decide) k) ?_
      show own_Fin p.tables e below _ (T36.setTop (mkF m 145 #[.val (.int i1), .val (.int i2), .val (.int i3), .val (.int i4), .val (.int i5), .val (.ref a1), .val (.int (own_na i1 i2 i3 i4 i5)), .val .null, .val (.ref a23), .val (.int ((i4 &&& (2147483647 : Int32)) % (3 : Int32))), .val (.ref (own_kd_2 rF rO rR i4)), .val (.ref a30), .val (.int (own_exp_2 i1 i2 i3 i4 i5))] [(.int (1 : Int32))]))
      refine own_retNW X36 hx hlk hS31 (by rw [e36]; exact (Nat.le_trans (Nat.le_refl _) KK32.1)) (t := .boolean) hret (by simp) (hb hby at_145) ?_ (by decide) (by decide)
      exact ⟨by rw [show f0 i1 i2 i3 i4 i5 = (1 : Int32) from by simp only [f0, if_neg hc4, if_pos hc37]]; rfl, N36⟩
    · refine own_go (fun _ k => XS.icmpYes X36.here hx rfl (pc0 := 137) (pc' := 144) rfl (hb hby at_137) rfl (XT.ii_ne_t hc37) (by decide) (by decide) k) ?_
      show own_Fin p.tables e below _ (T36.setTop (mkF m 144 #[.val (.int i1), .val (.int i2), .val (.int i3), .val (.int i4), .val (.int i5), .val (.ref a1), .val (.int (own_na i1 i2 i3 i4 i5)), .val .null, .val (.ref a23), .val (.int ((i4 &&& (2147483647 : Int32)) % (3 : Int32))), .val (.ref (own_kd_2 rF rO rR i4)), .val (.ref a30), .val (.int (own_exp_2 i1 i2 i3 i4 i5))] []))
      refine own_go (fun _ k => XT.iconstV X36.here hx rfl (0 : Int32) (hb hby at_144) (by decide) k) ?_
      show own_Fin p.tables e below _ (T36.setTop (mkF m 145 #[.val (.int i1), .val (.int i2), .val (.int i3), .val (.int i4), .val (.int i5), .val (.ref a1), .val (.int (own_na i1 i2 i3 i4 i5)), .val .null, .val (.ref a23), .val (.int ((i4 &&& (2147483647 : Int32)) % (3 : Int32))), .val (.ref (own_kd_2 rF rO rR i4)), .val (.ref a30), .val (.int (own_exp_2 i1 i2 i3 i4 i5))] [(.int (0 : Int32))]))
      refine own_retNW X36 hx hlk hS31 (by rw [e36]; exact (Nat.le_trans (Nat.le_refl _) KK32.1)) (t := .boolean) hret (by simp) (hb hby at_145) ?_ (by decide) (by decide)
      exact ⟨by rw [show f0 i1 i2 i3 i4 i5 = (0 : Int32) from by simp only [f0, if_neg hc4, if_neg hc37]]; rfl, N36⟩
set_option maxRecDepth 65536 in
set_option maxHeartbeats 40000000 in
theorem comes_1 {Post : Tables → Env → Array Value → State → Outcome → State → Prop} (hpost : ∀ tb e args s v u, (limb_1_1.after args s (.returned v) u = true ∧ limb_1_2.after args s (.returned v) u = true ∧ True) → ReturnedEndW s (.returned v) u (Jvm.fieldLocs frame_1_writes args s ++ Jvm.arrayLocs frame_1_arrays args s ++ Jvm.staticLocs frame_1_statics s) 40 1216 → Post tb e args s (.returned v) u) :
    ArmFor flags0 classFile x code maxLocals ret World_1 tables_1 room_1 Calls_1 rest_1 Pre_1 Post := by
  intro l hfl _ _ p e ha hc hk s m args below hf hA hF happ hP
  obtain ⟨hcalls, hrest, hpre⟩ := hP
  obtain ⟨-, -, -, hnamed, -, -, -, hat⟩ := (Spec.applies_iff hf).mp happ
  obtain ⟨hg, hn⟩ := and_e (Cond.before_iff.mp (show (Jvm.Cond.and given_1 narrow_1).before args s = true from hpre))
  obtain ⟨hcount, hr0⟩ := and_e hg
  obtain ⟨hk0, hr1⟩ := and_e hr0
  obtain ⟨hk1, hr2⟩ := and_e hr1
  obtain ⟨hk2, hr3⟩ := and_e hr2
  obtain ⟨hk3, hr4⟩ := and_e hr3
  obtain ⟨w0, w1, w2, w3, w4, rfl⟩ : ∃ w0 w1 w2 w3 w4 : Value, args = #[w0, w1, w2, w3, w4] := by
    have hs : args.size = 5 := by simpa [Cond.value, given_1] using hcount
    obtain ⟨L⟩ := args
    match L, hs with
    | [w0, w1, w2, w3, w4], _ => exact ⟨w0, w1, w2, w3, w4, rfl⟩
  have hw := fun d (hd : d ∈ tables_1) => atoms_spec (ws := Jvm.Cond.code x code maxLocals ret :: tables_1) hat d (List.mem_cons_of_mem _ hd)
  obtain ⟨hsets, hown0⟩ := atoms_of _ (rest_1_c_eq ▸ (show rest_1_c.before _ s = true from hrest))
  obtain ⟨i0, ev0⟩ := is_v hk0
  obtain rfl : w0 = (.int i0) := Option.some.inj ev0
  obtain ⟨i1, ev1⟩ := is_v hk1
  obtain rfl : w1 = (.int i1) := Option.some.inj ev1
  obtain ⟨i2, ev2⟩ := is_v hk2
  obtain rfl : w2 = (.int i2) := Option.some.inj ev2
  obtain ⟨i3, ev3⟩ := is_v hk3
  obtain rfl : w3 = (.int i3) := Option.some.inj ev3
  obtain ⟨i4, ev4⟩ := is_v hr4
  obtain rfl : w4 = (.int i4) := Option.some.inj ev4
  obtain ⟨ic, evc⟩ := is_v (Cond.before_iff.mp (hsets _ (List.mem_of_getElem? (i := 1) rfl)))
  have SC : Sta s s.heap "java/lang/String" "COMPACT_STRINGS" "Z" (.int ic) := Sta.start evc (Or.inl (hsets _ (List.mem_of_getElem? (i := 0) rfl)))
  have hz : ¬ (ic = (0 : Int32)) := gotF (Cond.eq_ints evc (Term.int_eval (0))) (not_v (Cond.before_iff.mp (hsets _ (List.mem_of_getElem? (i := 2) rfl))))
  have hcw := hsets _ (List.mem_of_getElem? (i := 2) rfl)
  obtain ⟨x0, hn⟩ := and_e hn
  obtain ⟨x1, x2⟩ := and_e hn
  obtain ⟨rO, evrO⟩ := exa_v x0
  have SrO : Sta s s.heap "com/example/tremorgrid/tremorgrid/app/Arguments$Kind" "ONCE" "Lcom/example/tremorgrid/tremorgrid/app/Arguments$Kind;" (.ref rO) := Sta.start evrO (Or.inr ⟨hw _ (List.mem_of_getElem? (i := 42) rfl), hw _ (List.mem_of_getElem? (i := 43) rfl)⟩)
  obtain ⟨rF, evrF⟩ := exa_v x1
  have SrF : Sta s s.heap "com/example/tremorgrid/tremorgrid/app/Arguments$Kind" "FLAG" "Lcom/example/tremorgrid/tremorgrid/app/Arguments$Kind;" (.ref rF) := Sta.start evrF (Or.inr ⟨hw _ (List.mem_of_getElem? (i := 42) rfl), hw _ (List.mem_of_getElem? (i := 83) rfl)⟩)
  obtain ⟨rR, evrR⟩ := exa_v x2
  have SrR : Sta s s.heap "com/example/tremorgrid/tremorgrid/app/Arguments$Kind" "REPEATED" "Lcom/example/tremorgrid/tremorgrid/app/Arguments$Kind;" (.ref rR) := Sta.start evrR (Or.inr ⟨hw _ (List.mem_of_getElem? (i := 42) rfl), hw _ (List.mem_of_getElem? (i := 85) rfl)⟩)
  have hheld : Jvm.Lit.constHeld s "java/lang/String" 7 := hcalls.1 ("java/lang/String", 7) (by decide)
  obtain ⟨n, o, h1, h2, h3, _, L, rfl, ⟨hv, N⟩, hq⟩ := rm0 l s _ hw tables_1 i0 i1 i2 i3 i4 s.heap s.heap.size (Nat.le_refl _) rF rO rR SrF SrO SrR ic SC hz (Old.start s) hheld hcw p e ha hc hk s m _ below hf ((Spec.applies_iff_loose hf).mp happ).1 ⟨rfl, State.Warmed39.refl s, rfl, Or.inl IB.start⟩ trivial
  rw [own_law] at hv
  subst hv
  refine ⟨n, _, h1, h2, h3, hpost _ _ _ _ _ _ ⟨Cond.after_iff.mpr rfl, Cond.after_iff.mpr (eq_i res_at (Term.int_eval (1)) rfl), trivial⟩ ⟨hq.1, hq.2.1, hq.2.2.1, (hq.2.2.2.sift fun y hy => Or.inr (N y hy)).mono (by decide) (by decide)⟩⟩
theorem main_1_1 : Claimed_1_1 := comes_1 fun _ _ _ _ _ _ h hF => ⟨h.1, hF⟩
theorem main_1_2 : Claimed_1_2 := comes_1 fun _ _ _ _ _ _ h hF => ⟨h.2.1, hF⟩
end Jvm.Pilot.@@N@@
namespace Jvm.Pilot.@@N@@
open Jvm Jvm.ClassFile Sem Op Lib Jvm.Free Jvm.Stand Jvm.Pilot.@@N@@.Jvm.D
/-! MADE BY PROGRAM (witnessworld.py) out of the Statement's table words and the real class files: 23 classes; the members and pool entries that the words name. The judged class is class 1, her method 1. -/
namespace start1
open Jvm.ClassFile
def u (s : String) : CpInfo := .utf8 (stringToUtf16 s)
/-- a pool by its gaps: so many unusable entries, then the entry; so many at the end -/
def gap : Nat → List CpInfo → List CpInfo
  | 0, r => r
  | n + 1, r => .unusable :: gap n r
def poolList (es : List (Nat × CpInfo)) (last : Nat) : List CpInfo := es.foldr (fun e r => gap e.1 (e.2 :: r)) (gap last [])
def pool (es : List (Nat × CpInfo)) (last : Nat) : Array CpInfo := ⟨poolList es last⟩
def fileOf (pool : Array CpInfo) (this : Nat) (attrs : Array Attribute := #[]) (ms : Array MethodInfo := #[]) (fl : Nat := 33) (sup : Nat := 0) (ifs : Array Nat := #[]) (fds : Array FieldInfo := #[]) : ClassFile where
  minorVersion := 0
  majorVersion := 65
  constantPool := pool
  accessFlags := fl
  thisClass := this
  superClass := sup
  interfaces := ifs
  fields := fds
  methods := ms
  attributes := attrs
def plain (name : String) (sup : Option ClassId) : Class where
  name := name
  kind := .ordinary
  loader := none
  accessFlags := 33
  super := sup
  interfaces := #[]
  cf := none
  fields := #[]
  methods := #[]
  instanceTypes := #[]
  staticTypes := #[]
  resolved := #[]
  callSites := []
  init := .initialized
  statics := none
  mirror := none

def pool0 : Array CpInfo := pool [(5, u "<init>"), (0, u "()V"), (1, .class_ 10), (1, u "java/lang/Object")] 113

def k0c0 : Code := { maxStack := 0, maxLocals := 1, code := object_method_1_code, exceptionTable := #[], attributes := #[] }
def k0m0 : Method := { name := "<init>", desc := "()V", sig := { parameters := [], returnType := none }, accessFlags := 1, code := some k0c0 }
/-- java/lang/Object -/
def k0 : Class := { plain "java/lang/Object" none with
  accessFlags := 33
  interfaces := #[]
  cf := some (fileOf pool0 8 #[] #[{ accessFlags := 1, nameIndex := 5, descriptorIndex := 6, attributes := #[] }] 33 0 #[] #[])
  fields := #[]
  methods := #[k0m0]
  instanceTypes := #[]
  staticTypes := #[]
  resolved := Array.replicate 124 none
  statics := none }

def pool1 : Array CpInfo := pool [(2, .class_ 4), (1, u "java/lang/Object"), (0, u "<init>"), (0, u "()V"), (0, .methodref 8 9), (0, .class_ 10), (0, .nameAndType 11 12), (0, u "com/example/tremorgrid/tremorgrid/app/OptionIsGivenByPinLaw"), (0, u "mk"), (0, u "(I)Ljava/lang/String;"), (0, .integer 2147483647), (0, .fieldref 15 16), (0, .class_ 17), (0, .nameAndType 18 19), (0, u "com/example/tremorgrid/tremorgrid/app/Arguments$Kind"), (0, u "FLAG"), (0, u "Lcom/example/tremorgrid/tremorgrid/app/Arguments$Kind;"), (0, .fieldref 15 21), (0, .nameAndType 22 19), (0, u "ONCE"), (0, .fieldref 15 24), (0, .nameAndType 25 19), (0, u "REPEATED"), (0, .class_ 27), (0, u "com/example/tremorgrid/tremorgrid/app/Arguments$Option"), (0, .methodref 26 29), (0, .nameAndType 5 30), (0, u "(Ljava/lang/String;Ljava/lang/String;Lcom/example/tremorgrid/tremorgrid/app/Arguments$Kind;Ljava/lang/String;)V"), (0, .methodref 8 32), (0, .nameAndType 33 34), (0, u "same"), (0, u "(II)Z"), (0, .methodref 26 36), (0, .nameAndType 37 38), (0, u "isGivenBy"), (0, u "(Ljava/lang/String;)Z"), (0, .methodref 8 40), (0, .nameAndType 41 42), (0, u "ch"), (0, u "(II)I"), (0, .class_ 44), (0, u "java/lang/String"), (0, .methodref 43 46), (0, .nameAndType 5 47), (0, u "([C)V"), (2, u "law"), (0, u "(IIIII)Z")] 10

def k1m0 : Method := { name := "<init>", desc := "()V", sig := { parameters := [], returnType := none }, accessFlags := 1, code := none }
def k1c1 : Code := { maxStack := 6, maxLocals := 13, code := code, exceptionTable := #[], attributes := #[] }
def k1m1 : Method := { name := "law", desc := "(IIIII)Z", sig := { parameters := [.int, .int, .int, .int, .int], returnType := some .boolean }, accessFlags := 9, code := some k1c1 }
def k1c2 : Code := { maxStack := 4, maxLocals := 2, code := method_3_code, exceptionTable := #[], attributes := #[] }
def k1m2 : Method := { name := "ch", desc := "(II)I", sig := { parameters := [.int, .int], returnType := some .int }, accessFlags := 10, code := some k1c2 }
def k1c3 : Code := { maxStack := 4, maxLocals := 3, code := method_4_code, exceptionTable := #[], attributes := #[] }
def k1m3 : Method := { name := "mk", desc := "(I)Ljava/lang/String;", sig := { parameters := [.int], returnType := some (.object "java/lang/String") }, accessFlags := 10, code := some k1c3 }
def k1c4 : Code := { maxStack := 3, maxLocals := 4, code := method_5_code, exceptionTable := #[], attributes := #[] }
def k1m4 : Method := { name := "same", desc := "(II)Z", sig := { parameters := [.int, .int], returnType := some .boolean }, accessFlags := 10, code := some k1c4 }
/-- com/example/tremorgrid/tremorgrid/app/OptionIsGivenByPinLaw -/
def k1 : Class := { plain "com/example/tremorgrid/tremorgrid/app/OptionIsGivenByPinLaw" (some 0) with
  accessFlags := 49
  interfaces := #[]
  cf := some (fileOf pool1 8 #[] #[{ accessFlags := 1, nameIndex := 5, descriptorIndex := 6, attributes := #[] }, { accessFlags := 9, nameIndex := 50, descriptorIndex := 51, attributes := #[] }, { accessFlags := 10, nameIndex := 41, descriptorIndex := 42, attributes := #[] }, { accessFlags := 10, nameIndex := 11, descriptorIndex := 12, attributes := #[] }, { accessFlags := 10, nameIndex := 33, descriptorIndex := 34, attributes := #[] }] 49 2 #[] #[])
  fields := #[]
  methods := #[k1m0, k1m1, k1m2, k1m3, k1m4]
  instanceTypes := #[]
  staticTypes := #[]
  resolved := Array.replicate 62 none
  statics := none }

def pool2 : Array CpInfo := pool [(1, .class_ 2), (0, u "java/io/Serializable"), (0, .class_ 4), (0, u "java/lang/Object")] 2

/-- java/io/Serializable -/
def k2 : Class := { plain "java/io/Serializable" (some 0) with
  accessFlags := 1537
  interfaces := #[]
  cf := some (fileOf pool2 1 #[] #[] 1537 3 #[] #[])
  fields := #[]
  methods := #[]
  instanceTypes := #[]
  staticTypes := #[]
  resolved := Array.replicate 7 none
  statics := none }

def pool3 : Array CpInfo := pool [(1, .class_ 2), (0, u "java/lang/Comparable"), (0, .class_ 4), (0, u "java/lang/Object")] 7

/-- java/lang/Comparable -/
def k3 : Class := { plain "java/lang/Comparable" (some 0) with
  accessFlags := 1537
  interfaces := #[]
  cf := some (fileOf pool3 1 #[] #[] 1537 3 #[] #[])
  fields := #[]
  methods := #[]
  instanceTypes := #[]
  staticTypes := #[]
  resolved := Array.replicate 12 none
  statics := none }

def pool4 : Array CpInfo := pool [(2, .class_ 4), (1, u "java/lang/CharSequence"), (42, .class_ 48), (0, u "java/lang/CharSequence$1CodePointIterator"), (10, .class_ 60), (0, u "java/lang/CharSequence$1CharIterator"), (5, .class_ 67), (0, u "java/lang/Object")] 63

/-- java/lang/CharSequence -/
def k4 : Class := { plain "java/lang/CharSequence" (some 0) with
  accessFlags := 1537
  interfaces := #[]
  cf := some (fileOf pool4 2 #[.nestMembers #[47, 59]] #[] 1537 66 #[] #[])
  fields := #[]
  methods := #[]
  instanceTypes := #[]
  staticTypes := #[]
  resolved := Array.replicate 131 none
  statics := none }

def pool5 : Array CpInfo := pool [(1, .class_ 2), (0, u "java/lang/constant/Constable"), (0, .class_ 4), (0, u "java/lang/Object")] 6

/-- java/lang/constant/Constable -/
def k5 : Class := { plain "java/lang/constant/Constable" (some 0) with
  accessFlags := 1537
  interfaces := #[]
  cf := some (fileOf pool5 1 #[] #[] 1537 3 #[] #[])
  fields := #[]
  methods := #[]
  instanceTypes := #[]
  staticTypes := #[]
  resolved := Array.replicate 11 none
  statics := none }

def pool6 : Array CpInfo := pool [(1, .class_ 2), (0, u "java/lang/constant/ConstantDesc"), (0, .class_ 4), (0, u "java/lang/Object")] 32

/-- java/lang/constant/ConstantDesc -/
def k6 : Class := { plain "java/lang/constant/ConstantDesc" (some 0) with
  accessFlags := 1537
  interfaces := #[]
  cf := some (fileOf pool6 1 #[] #[] 1537 3 #[] #[])
  fields := #[]
  methods := #[]
  instanceTypes := #[]
  staticTypes := #[]
  resolved := Array.replicate 37 none
  statics := none }

def pool7 : Array CpInfo := pool [(1, .methodref 2 3), (0, .class_ 4), (0, .nameAndType 5 6), (0, u "java/lang/Object"), (0, u "<init>"), (0, u "()V"), (0, .string 8), (0, u ""), (0, .fieldref 10 11), (0, .class_ 12), (0, .nameAndType 13 14), (0, u "java/lang/String"), (0, u "value"), (0, u "[B"), (0, .fieldref 10 16), (0, .nameAndType 17 18), (0, u "coder"), (0, u "B"), (2, u "hash"), (0, u "I"), (2, u "hashIsZero"), (0, u "Z"), (0, .methodref 10 28), (0, .nameAndType 5 29), (0, u "([CIILjava/lang/Void;)V"), (8, .fieldref 10 39), (0, .nameAndType 40 26), (0, u "COMPACT_STRINGS"), (1, .class_ 44), (1, u "java/lang/StringUTF16"), (0, u "compress"), (1, .methodref 42 48), (0, .nameAndType 49 50), (0, u "coderFromArrayLen"), (0, u "([BI)B"), (56, .class_ 109), (1, u "java/lang/StringLatin1"), (67, .methodref 42 178), (0, .nameAndType 45 179), (0, u "([CII)[B"), (361, .methodref 107 542), (0, .nameAndType 543 544), (0, u "equals"), (0, u "([B[B)Z"), (28, u "(Ljava/lang/Object;)Z"), (1, .class_ 576), (0, u "java/lang/CharSequence"), (22, u "CASE_INSENSITIVE_ORDER"), (0, u "Ljava/util/Comparator;"), (409, u "([C)V"), (90, u "serialPersistentFields"), (0, u "[Ljava/io/ObjectStreamField;"), (0, .class_ 1104), (0, u "java/lang/String$CaseInsensitiveComparator"), (1, .class_ 1107), (0, u "java/io/Serializable"), (0, .class_ 1109), (0, u "java/lang/Comparable"), (0, .class_ 1111), (0, u "java/lang/constant/Constable"), (0, .class_ 1113), (0, u "java/lang/constant/ConstantDesc"), (2, u "serialVersionUID"), (0, u "J"), (3, u "REPL"), (0, u "C"), (2, u "LATIN1"), (1, u "UTF16")] 323

def k7m0 : Method := { name := "<init>", desc := "()V", sig := { parameters := [], returnType := none }, accessFlags := 1, code := none }
def k7c1 : Code := { maxStack := 5, maxLocals := 2, code := jdk_42_method_3_code, exceptionTable := #[], attributes := #[] }
def k7m1 : Method := { name := "<init>", desc := "([C)V", sig := { parameters := [(.array .char)], returnType := none }, accessFlags := 1, code := some k7c1 }
def k7c2 : Code := { maxStack := 2, maxLocals := 3, code := jdk_42_method_66_code, exceptionTable := #[], attributes := #[] }
def k7m2 : Method := { name := "equals", desc := "(Ljava/lang/Object;)Z", sig := { parameters := [(.object "java/lang/Object")], returnType := some .boolean }, accessFlags := 1, code := some k7c2 }
def k7c3 : Code := { maxStack := 4, maxLocals := 6, code := jdk_42_method_149_code, exceptionTable := #[], attributes := #[] }
def k7m3 : Method := { name := "<init>", desc := "([CIILjava/lang/Void;)V", sig := { parameters := [(.array .char), .int, .int, (.object "java/lang/Void")], returnType := none }, accessFlags := 2, code := some k7c3 }
/-- java/lang/String -/
def k7 : Class := { plain "java/lang/String" (some 0) with
  accessFlags := 49
  interfaces := #[2, 3, 4, 5, 6]
  cf := some (fileOf pool7 10 #[.nestMembers #[1103]] #[{ accessFlags := 1, nameIndex := 5, descriptorIndex := 6, attributes := #[] }, { accessFlags := 1, nameIndex := 5, descriptorIndex := 1010, attributes := #[] }, { accessFlags := 1, nameIndex := 543, descriptorIndex := 573, attributes := #[] }, { accessFlags := 2, nameIndex := 5, descriptorIndex := 29, attributes := #[] }] 49 2 #[1106, 1108, 575, 1110, 1112] #[{ accessFlags := 18, nameIndex := 13, descriptorIndex := 14, attributes := #[] }, { accessFlags := 18, nameIndex := 17, descriptorIndex := 18, attributes := #[] }, { accessFlags := 2, nameIndex := 21, descriptorIndex := 22, attributes := #[] }, { accessFlags := 2, nameIndex := 25, descriptorIndex := 26, attributes := #[] }, { accessFlags := 26, nameIndex := 1116, descriptorIndex := 1117, attributes := #[] }, { accessFlags := 24, nameIndex := 40, descriptorIndex := 26, attributes := #[] }, { accessFlags := 26, nameIndex := 1101, descriptorIndex := 1102, attributes := #[] }, { accessFlags := 26, nameIndex := 1121, descriptorIndex := 1122, attributes := #[] }, { accessFlags := 25, nameIndex := 599, descriptorIndex := 600, attributes := #[] }, { accessFlags := 24, nameIndex := 1125, descriptorIndex := 18, attributes := #[] }, { accessFlags := 24, nameIndex := 1127, descriptorIndex := 18, attributes := #[] }])
  fields := #[{ name := "value", type := (.array .byte), accessFlags := 18, slot := 0, constantValue := 0 }, { name := "coder", type := .byte, accessFlags := 18, slot := 1, constantValue := 0 }, { name := "hash", type := .int, accessFlags := 2, slot := 2, constantValue := 0 }, { name := "hashIsZero", type := .boolean, accessFlags := 2, slot := 3, constantValue := 0 }, { name := "serialVersionUID", type := .long, accessFlags := 26, slot := 0, constantValue := 0 }, { name := "COMPACT_STRINGS", type := .boolean, accessFlags := 24, slot := 1, constantValue := 0 }, { name := "serialPersistentFields", type := (.array (.object "java/io/ObjectStreamField")), accessFlags := 26, slot := 2, constantValue := 0 }, { name := "REPL", type := .char, accessFlags := 26, slot := 3, constantValue := 0 }, { name := "CASE_INSENSITIVE_ORDER", type := (.object "java/util/Comparator"), accessFlags := 25, slot := 4, constantValue := 0 }, { name := "LATIN1", type := .byte, accessFlags := 24, slot := 5, constantValue := 0 }, { name := "UTF16", type := .byte, accessFlags := 24, slot := 6, constantValue := 0 }]
  methods := #[k7m0, k7m1, k7m2, k7m3]
  instanceTypes := #[(.array .byte), .byte, .int, .boolean]
  staticTypes := #[.long, .boolean, (.array (.object "java/io/ObjectStreamField")), .char, (.object "java/util/Comparator"), .byte, .byte]
  resolved := Array.replicate 1451 none
  statics := some 0 }

def pool8 : Array CpInfo := pool [(6, .class_ 8), (1, u "java/lang/Object"), (0, u "<init>"), (0, u "()V"), (1, .class_ 14), (1, u "java/lang/StringUTF16"), (31, u "$assertionsDisabled"), (0, u "Z"), (13, u "HI_BYTE_SHIFT"), (0, u "I"), (2, u "LO_BYTE_SHIFT"), (49, .methodref 12 116), (0, .nameAndType 117 118), (0, u "compress"), (0, u "([CI[BII)I"), (3, u "([CII)[B"), (138, u "coderFromArrayLen"), (0, u "([BI)B"), (106, .class_ 371), (1, u "java/lang/StringUTF16$LinesSpliterator"), (58, u "MAX_LENGTH"), (196, .class_ 628), (0, u "java/lang/StringUTF16$CodePointsSpliterator"), (0, .class_ 630), (0, u "java/lang/StringUTF16$CharsSpliterator")] 4

def k8m0 : Method := { name := "<init>", desc := "()V", sig := { parameters := [], returnType := none }, accessFlags := 0, code := none }
def k8c1 : Code := { maxStack := 2, maxLocals := 2, code := jdk_52_method_15_code, exceptionTable := #[], attributes := #[] }
def k8m1 : Method := { name := "coderFromArrayLen", desc := "([BI)B", sig := { parameters := [(.array .byte), .int], returnType := some .byte }, accessFlags := 8, code := some k8c1 }
def k8c2 : Code := { maxStack := 5, maxLocals := 6, code := jdk_52_method_16_code, exceptionTable := #[], attributes := #[] }
def k8m2 : Method := { name := "compress", desc := "([CII)[B", sig := { parameters := [(.array .char), .int, .int], returnType := some (.array .byte) }, accessFlags := 9, code := some k8c2 }
def k8c3 : Code := { maxStack := 3, maxLocals := 7, code := jdk_52_method_21_code, exceptionTable := #[], attributes := #[] }
def k8m3 : Method := { name := "compress", desc := "([CI[BII)I", sig := { parameters := [(.array .char), .int, (.array .byte), .int, .int], returnType := some .int }, accessFlags := 9, code := some k8c3 }
/-- java/lang/StringUTF16 -/
def k8 : Class := { plain "java/lang/StringUTF16" (some 0) with
  accessFlags := 48
  interfaces := #[]
  cf := some (fileOf pool8 12 #[.nestMembers #[627, 629, 369]] #[{ accessFlags := 0, nameIndex := 9, descriptorIndex := 10, attributes := #[] }, { accessFlags := 8, nameIndex := 261, descriptorIndex := 262, attributes := #[] }, { accessFlags := 9, nameIndex := 117, descriptorIndex := 122, attributes := #[] }, { accessFlags := 9, nameIndex := 117, descriptorIndex := 118, attributes := #[] }] 48 6 #[] #[{ accessFlags := 26, nameIndex := 61, descriptorIndex := 62, attributes := #[] }, { accessFlags := 26, nameIndex := 65, descriptorIndex := 62, attributes := #[] }, { accessFlags := 24, nameIndex := 430, descriptorIndex := 62, attributes := #[] }, { accessFlags := 4120, nameIndex := 46, descriptorIndex := 47, attributes := #[] }])
  fields := #[{ name := "HI_BYTE_SHIFT", type := .int, accessFlags := 26, slot := 0, constantValue := 0 }, { name := "LO_BYTE_SHIFT", type := .int, accessFlags := 26, slot := 1, constantValue := 0 }, { name := "MAX_LENGTH", type := .int, accessFlags := 24, slot := 2, constantValue := 0 }, { name := "$assertionsDisabled", type := .boolean, accessFlags := 4120, slot := 3, constantValue := 0 }]
  methods := #[k8m0, k8m1, k8m2, k8m3]
  instanceTypes := #[]
  staticTypes := #[.int, .int, .int, .boolean]
  resolved := Array.replicate 635 none
  statics := none }

def pool9 : Array CpInfo := pool [(2, .class_ 4), (1, u "java/lang/Enum"), (0, u "name"), (0, u "Ljava/lang/String;"), (2, u "ordinal"), (0, u "I"), (1, .class_ 14), (1, u "java/lang/Object"), (4, u "hash"), (86, .class_ 108), (1, u "java/lang/Enum$EnumDesc"), (2, .class_ 112), (0, u "java/lang/constant/Constable"), (0, .class_ 114), (0, u "java/lang/Comparable"), (0, .class_ 116), (0, u "java/io/Serializable")] 87

/-- java/lang/Enum -/
def k9 : Class := { plain "java/lang/Enum" (some 0) with
  accessFlags := 1057
  interfaces := #[5, 3, 2]
  cf := some (fileOf pool9 2 #[.nestMembers #[106]] #[] 1057 12 #[111, 113, 115] #[{ accessFlags := 18, nameIndex := 5, descriptorIndex := 6, attributes := #[] }, { accessFlags := 18, nameIndex := 9, descriptorIndex := 10, attributes := #[] }, { accessFlags := 2, nameIndex := 19, descriptorIndex := 10, attributes := #[] }])
  fields := #[{ name := "name", type := (.object "java/lang/String"), accessFlags := 18, slot := 0, constantValue := 0 }, { name := "ordinal", type := .int, accessFlags := 18, slot := 1, constantValue := 0 }, { name := "hash", type := .int, accessFlags := 2, slot := 2, constantValue := 0 }]
  methods := #[]
  instanceTypes := #[(.object "java/lang/String"), .int, .int]
  staticTypes := #[]
  resolved := Array.replicate 204 none
  statics := none }

def pool10 : Array CpInfo := pool [(1, .class_ 2), (0, u "com/example/tremorgrid/tremorgrid/app/Arguments$Kind"), (2, u "FLAG"), (0, u "Lcom/example/tremorgrid/tremorgrid/app/Arguments$Kind;"), (2, u "ONCE"), (2, u "REPEATED"), (2, u "$VALUES"), (0, u "[Lcom/example/tremorgrid/tremorgrid/app/Arguments$Kind;"), (6, .class_ 25), (1, u "java/lang/Enum"), (26, .class_ 53), (0, u "com/example/tremorgrid/tremorgrid/app/Arguments")] 2

/-- com/example/tremorgrid/tremorgrid/app/Arguments$Kind -/
def k10 : Class := { plain "com/example/tremorgrid/tremorgrid/app/Arguments$Kind" (some 9) with
  accessFlags := 16432
  interfaces := #[]
  cf := some (fileOf pool10 1 #[.nestHost 52] #[] 16432 23 #[] #[{ accessFlags := 16409, nameIndex := 5, descriptorIndex := 6, attributes := #[] }, { accessFlags := 16409, nameIndex := 9, descriptorIndex := 6, attributes := #[] }, { accessFlags := 16409, nameIndex := 12, descriptorIndex := 6, attributes := #[] }, { accessFlags := 4122, nameIndex := 15, descriptorIndex := 16, attributes := #[] }])
  fields := #[{ name := "FLAG", type := (.object "com/example/tremorgrid/tremorgrid/app/Arguments$Kind"), accessFlags := 16409, slot := 0, constantValue := 0 }, { name := "ONCE", type := (.object "com/example/tremorgrid/tremorgrid/app/Arguments$Kind"), accessFlags := 16409, slot := 1, constantValue := 0 }, { name := "REPEATED", type := (.object "com/example/tremorgrid/tremorgrid/app/Arguments$Kind"), accessFlags := 16409, slot := 2, constantValue := 0 }, { name := "$VALUES", type := (.array (.object "com/example/tremorgrid/tremorgrid/app/Arguments$Kind")), accessFlags := 4122, slot := 3, constantValue := 0 }]
  methods := #[]
  instanceTypes := #[(.object "java/lang/String"), .int, .int]
  staticTypes := #[(.object "com/example/tremorgrid/tremorgrid/app/Arguments$Kind"), (.object "com/example/tremorgrid/tremorgrid/app/Arguments$Kind"), (.object "com/example/tremorgrid/tremorgrid/app/Arguments$Kind"), (.array (.object "com/example/tremorgrid/tremorgrid/app/Arguments$Kind"))]
  resolved := Array.replicate 56 none
  statics := some 1 }

def pool11 : Array CpInfo := pool [(1, .methodref 2 3), (0, .class_ 4), (0, .nameAndType 5 6), (0, u "java/lang/Object"), (0, u "<init>"), (0, u "()V"), (0, .class_ 8), (0, u "java/lang/Record")] 13

def k11c0 : Code := { maxStack := 1, maxLocals := 1, code := jdk_30_method_1_code, exceptionTable := #[], attributes := #[] }
def k11m0 : Method := { name := "<init>", desc := "()V", sig := { parameters := [], returnType := none }, accessFlags := 4, code := some k11c0 }
/-- java/lang/Record -/
def k11 : Class := { plain "java/lang/Record" (some 0) with
  accessFlags := 1057
  interfaces := #[]
  cf := some (fileOf pool11 7 #[] #[{ accessFlags := 4, nameIndex := 5, descriptorIndex := 6, attributes := #[] }] 1057 2 #[] #[])
  fields := #[]
  methods := #[k11m0]
  instanceTypes := #[]
  staticTypes := #[]
  resolved := Array.replicate 22 none
  statics := none }

def pool12 : Array CpInfo := pool [(1, .methodref 2 3), (0, .class_ 4), (0, .nameAndType 5 6), (0, u "java/lang/Record"), (0, u "<init>"), (0, u "()V"), (0, .fieldref 8 9), (0, .class_ 10), (0, .nameAndType 11 12), (0, u "com/example/tremorgrid/tremorgrid/app/Arguments$Option"), (0, u "name"), (0, u "Ljava/lang/String;"), (0, .fieldref 8 14), (0, .nameAndType 15 12), (0, u "alias"), (0, .fieldref 8 17), (0, .nameAndType 18 19), (0, u "kind"), (0, u "Lcom/example/tremorgrid/tremorgrid/app/Arguments$Kind;"), (0, .fieldref 8 21), (0, .nameAndType 22 12), (0, u "value"), (13, u "(Ljava/lang/String;Ljava/lang/String;Lcom/example/tremorgrid/tremorgrid/app/Arguments$Kind;Ljava/lang/String;)V"), (0, .methodref 38 39), (0, .class_ 40), (0, .nameAndType 41 42), (0, u "java/lang/String"), (0, u "equals"), (0, u "(Ljava/lang/Object;)Z"), (21, u "isGivenBy"), (0, u "(Ljava/lang/String;)Z"), (9, .class_ 76), (0, u "com/example/tremorgrid/tremorgrid/app/Arguments")] 23

def k12c0 : Code := { maxStack := 2, maxLocals := 5, code := prog_16_method_1_code, exceptionTable := #[], attributes := #[] }
def k12m0 : Method := { name := "<init>", desc := "(Ljava/lang/String;Ljava/lang/String;Lcom/example/tremorgrid/tremorgrid/app/Arguments$Kind;Ljava/lang/String;)V", sig := { parameters := [(.object "java/lang/String"), (.object "java/lang/String"), (.object "com/example/tremorgrid/tremorgrid/app/Arguments$Kind"), (.object "java/lang/String")], returnType := none }, accessFlags := 0, code := some k12c0 }
def k12c1 : Code := { maxStack := 2, maxLocals := 2, code := prog_16_method_4_code, exceptionTable := #[], attributes := #[] }
def k12m1 : Method := { name := "isGivenBy", desc := "(Ljava/lang/String;)Z", sig := { parameters := [(.object "java/lang/String")], returnType := some .boolean }, accessFlags := 0, code := some k12c1 }
/-- com/example/tremorgrid/tremorgrid/app/Arguments$Option -/
def k12 : Class := { plain "com/example/tremorgrid/tremorgrid/app/Arguments$Option" (some 11) with
  accessFlags := 48
  interfaces := #[]
  cf := some (fileOf pool12 8 #[.nestHost 75] #[{ accessFlags := 0, nameIndex := 5, descriptorIndex := 36, attributes := #[] }, { accessFlags := 0, nameIndex := 64, descriptorIndex := 65, attributes := #[] }] 48 2 #[] #[{ accessFlags := 18, nameIndex := 11, descriptorIndex := 12, attributes := #[] }, { accessFlags := 18, nameIndex := 15, descriptorIndex := 12, attributes := #[] }, { accessFlags := 18, nameIndex := 18, descriptorIndex := 19, attributes := #[] }, { accessFlags := 18, nameIndex := 22, descriptorIndex := 12, attributes := #[] }])
  fields := #[{ name := "name", type := (.object "java/lang/String"), accessFlags := 18, slot := 0, constantValue := 0 }, { name := "alias", type := (.object "java/lang/String"), accessFlags := 18, slot := 1, constantValue := 0 }, { name := "kind", type := (.object "com/example/tremorgrid/tremorgrid/app/Arguments$Kind"), accessFlags := 18, slot := 2, constantValue := 0 }, { name := "value", type := (.object "java/lang/String"), accessFlags := 18, slot := 3, constantValue := 0 }]
  methods := #[k12m0, k12m1]
  instanceTypes := #[(.object "java/lang/String"), (.object "java/lang/String"), (.object "com/example/tremorgrid/tremorgrid/app/Arguments$Kind"), (.object "java/lang/String")]
  staticTypes := #[]
  resolved := Array.replicate 100 none
  statics := none }

def pool13 : Array CpInfo := pool [(4, .class_ 6), (1, u "java/lang/Object"), (0, u "<init>"), (0, u "()V"), (5, .class_ 16), (1, u "java/lang/StringLatin1"), (104, u "$assertionsDisabled"), (0, u "Z"), (98, .class_ 223), (1, u "java/lang/StringLatin1$LinesSpliterator"), (57, u "equals"), (0, u "([B[B)Z"), (107, .class_ 391), (0, u "java/lang/StringLatin1$CharsSpliterator")] 3

def k13m0 : Method := { name := "<init>", desc := "()V", sig := { parameters := [], returnType := none }, accessFlags := 0, code := none }
def k13c1 : Code := { maxStack := 3, maxLocals := 3, code := jdk_43_method_13_code, exceptionTable := #[], attributes := #[] }
def k13m1 : Method := { name := "equals", desc := "([B[B)Z", sig := { parameters := [(.array .byte), (.array .byte)], returnType := some .boolean }, accessFlags := 9, code := some k13c1 }
/-- java/lang/StringLatin1 -/
def k13 : Class := { plain "java/lang/StringLatin1" (some 0) with
  accessFlags := 48
  interfaces := #[]
  cf := some (fileOf pool13 14 #[.nestMembers #[390, 221]] #[{ accessFlags := 0, nameIndex := 7, descriptorIndex := 8, attributes := #[] }, { accessFlags := 9, nameIndex := 281, descriptorIndex := 282, attributes := #[] }] 48 4 #[] #[{ accessFlags := 4120, nameIndex := 121, descriptorIndex := 122, attributes := #[] }])
  fields := #[{ name := "$assertionsDisabled", type := .boolean, accessFlags := 4120, slot := 0, constantValue := 0 }]
  methods := #[k13m0, k13m1]
  instanceTypes := #[]
  staticTypes := #[.boolean]
  resolved := Array.replicate 395 none
  statics := none }

def pool14 : Array CpInfo := pool [(2, .class_ 4), (1, u "java/lang/Object"), (0, u "<init>"), (0, u "()V"), (17, .class_ 26), (1, u "jdk/internal/util/Preconditions"), (28, .class_ 56), (0, u "jdk/internal/util/Preconditions$4"), (57, .class_ 115), (0, u "jdk/internal/util/Preconditions$1"), (7, u "SIOOBE_FORMATTER"), (0, u "Ljava/util/function/BiFunction;"), (0, .class_ 126), (0, u "jdk/internal/util/Preconditions$2"), (3, u "AIOOBE_FORMATTER"), (0, .class_ 132), (0, u "jdk/internal/util/Preconditions$3"), (3, u "IOOBE_FORMATTER")] 57

def k14m0 : Method := { name := "<init>", desc := "()V", sig := { parameters := [], returnType := none }, accessFlags := 1, code := none }
/-- jdk/internal/util/Preconditions -/
def k14 : Class := { plain "jdk/internal/util/Preconditions" (some 0) with
  accessFlags := 33
  interfaces := #[]
  cf := some (fileOf pool14 24 #[.nestMembers #[55, 131, 125, 114]] #[{ accessFlags := 1, nameIndex := 5, descriptorIndex := 6, attributes := #[] }] 33 2 #[] #[{ accessFlags := 25, nameIndex := 123, descriptorIndex := 124, attributes := #[] }, { accessFlags := 25, nameIndex := 130, descriptorIndex := 124, attributes := #[] }, { accessFlags := 25, nameIndex := 136, descriptorIndex := 124, attributes := #[] }])
  fields := #[{ name := "SIOOBE_FORMATTER", type := (.object "java/util/function/BiFunction"), accessFlags := 25, slot := 0, constantValue := 0 }, { name := "AIOOBE_FORMATTER", type := (.object "java/util/function/BiFunction"), accessFlags := 25, slot := 1, constantValue := 0 }, { name := "IOOBE_FORMATTER", type := (.object "java/util/function/BiFunction"), accessFlags := 25, slot := 2, constantValue := 0 }]
  methods := #[k14m0]
  instanceTypes := #[]
  staticTypes := #[(.object "java/util/function/BiFunction"), (.object "java/util/function/BiFunction"), (.object "java/util/function/BiFunction")]
  resolved := Array.replicate 194 none
  statics := some 2 }

def pool15 : Array CpInfo := pool [(9, u "<init>"), (6, .class_ 18), (1, u "java/lang/Object"), (0, u "()V"), (1, .class_ 23), (1, u "jdk/internal/util/ArraysSupport"), (0, u "LOG2_ARRAY_LONG_INDEX_SCALE"), (0, u "I"), (2, u "U"), (0, u "Ljdk/internal/misc/Unsafe;"), (8, u "BIG_ENDIAN"), (0, u "Z"), (8, u "LOG2_BYTE_BIT_SIZE"), (4, u "LOG2_ARRAY_INT_INDEX_SCALE"), (54, u "JLA"), (0, u "Ljdk/internal/access/JavaLangAccess;"), (11, u "LOG2_ARRAY_BOOLEAN_INDEX_SCALE"), (9, u "LOG2_ARRAY_BYTE_INDEX_SCALE"), (5, u "LOG2_ARRAY_CHAR_INDEX_SCALE"), (5, u "LOG2_ARRAY_SHORT_INDEX_SCALE"), (18, u "LOG2_ARRAY_FLOAT_INDEX_SCALE"), (24, u "LOG2_ARRAY_DOUBLE_INDEX_SCALE"), (89, u "T_BOOLEAN"), (2, u "T_CHAR"), (1, u "T_FLOAT"), (1, u "T_DOUBLE"), (1, u "T_BYTE"), (1, u "T_SHORT"), (1, u "T_INT"), (1, u "T_LONG"), (1, u "SOFT_MAX_ARRAY_LENGTH")] 83

def k15m0 : Method := { name := "<init>", desc := "()V", sig := { parameters := [], returnType := none }, accessFlags := 2, code := none }
/-- jdk/internal/util/ArraysSupport -/
def k15 : Class := { plain "jdk/internal/util/ArraysSupport" (some 0) with
  accessFlags := 33
  interfaces := #[]
  cf := some (fileOf pool15 21 #[] #[{ accessFlags := 2, nameIndex := 9, descriptorIndex := 19, attributes := #[] }] 33 16 #[] #[{ accessFlags := 24, nameIndex := 28, descriptorIndex := 29, attributes := #[] }, { accessFlags := 26, nameIndex := 38, descriptorIndex := 39, attributes := #[] }, { accessFlags := 25, nameIndex := 121, descriptorIndex := 25, attributes := #[] }, { accessFlags := 25, nameIndex := 131, descriptorIndex := 25, attributes := #[] }, { accessFlags := 25, nameIndex := 137, descriptorIndex := 25, attributes := #[] }, { accessFlags := 25, nameIndex := 143, descriptorIndex := 25, attributes := #[] }, { accessFlags := 25, nameIndex := 53, descriptorIndex := 25, attributes := #[] }, { accessFlags := 25, nameIndex := 24, descriptorIndex := 25, attributes := #[] }, { accessFlags := 25, nameIndex := 162, descriptorIndex := 25, attributes := #[] }, { accessFlags := 25, nameIndex := 187, descriptorIndex := 25, attributes := #[] }, { accessFlags := 26, nameIndex := 48, descriptorIndex := 25, attributes := #[] }, { accessFlags := 25, nameIndex := 277, descriptorIndex := 25, attributes := #[] }, { accessFlags := 25, nameIndex := 280, descriptorIndex := 25, attributes := #[] }, { accessFlags := 25, nameIndex := 282, descriptorIndex := 25, attributes := #[] }, { accessFlags := 25, nameIndex := 284, descriptorIndex := 25, attributes := #[] }, { accessFlags := 25, nameIndex := 286, descriptorIndex := 25, attributes := #[] }, { accessFlags := 25, nameIndex := 288, descriptorIndex := 25, attributes := #[] }, { accessFlags := 25, nameIndex := 290, descriptorIndex := 25, attributes := #[] }, { accessFlags := 25, nameIndex := 292, descriptorIndex := 25, attributes := #[] }, { accessFlags := 26, nameIndex := 108, descriptorIndex := 109, attributes := #[] }, { accessFlags := 25, nameIndex := 294, descriptorIndex := 25, attributes := #[] }])
  fields := #[{ name := "U", type := (.object "jdk/internal/misc/Unsafe"), accessFlags := 24, slot := 0, constantValue := 0 }, { name := "BIG_ENDIAN", type := .boolean, accessFlags := 26, slot := 1, constantValue := 0 }, { name := "LOG2_ARRAY_BOOLEAN_INDEX_SCALE", type := .int, accessFlags := 25, slot := 2, constantValue := 0 }, { name := "LOG2_ARRAY_BYTE_INDEX_SCALE", type := .int, accessFlags := 25, slot := 3, constantValue := 0 }, { name := "LOG2_ARRAY_CHAR_INDEX_SCALE", type := .int, accessFlags := 25, slot := 4, constantValue := 0 }, { name := "LOG2_ARRAY_SHORT_INDEX_SCALE", type := .int, accessFlags := 25, slot := 5, constantValue := 0 }, { name := "LOG2_ARRAY_INT_INDEX_SCALE", type := .int, accessFlags := 25, slot := 6, constantValue := 0 }, { name := "LOG2_ARRAY_LONG_INDEX_SCALE", type := .int, accessFlags := 25, slot := 7, constantValue := 0 }, { name := "LOG2_ARRAY_FLOAT_INDEX_SCALE", type := .int, accessFlags := 25, slot := 8, constantValue := 0 }, { name := "LOG2_ARRAY_DOUBLE_INDEX_SCALE", type := .int, accessFlags := 25, slot := 9, constantValue := 0 }, { name := "LOG2_BYTE_BIT_SIZE", type := .int, accessFlags := 26, slot := 10, constantValue := 0 }, { name := "T_BOOLEAN", type := .int, accessFlags := 25, slot := 11, constantValue := 0 }, { name := "T_CHAR", type := .int, accessFlags := 25, slot := 12, constantValue := 0 }, { name := "T_FLOAT", type := .int, accessFlags := 25, slot := 13, constantValue := 0 }, { name := "T_DOUBLE", type := .int, accessFlags := 25, slot := 14, constantValue := 0 }, { name := "T_BYTE", type := .int, accessFlags := 25, slot := 15, constantValue := 0 }, { name := "T_SHORT", type := .int, accessFlags := 25, slot := 16, constantValue := 0 }, { name := "T_INT", type := .int, accessFlags := 25, slot := 17, constantValue := 0 }, { name := "T_LONG", type := .int, accessFlags := 25, slot := 18, constantValue := 0 }, { name := "JLA", type := (.object "jdk/internal/access/JavaLangAccess"), accessFlags := 26, slot := 19, constantValue := 0 }, { name := "SOFT_MAX_ARRAY_LENGTH", type := .int, accessFlags := 25, slot := 20, constantValue := 0 }]
  methods := #[k15m0]
  instanceTypes := #[]
  staticTypes := #[(.object "jdk/internal/misc/Unsafe"), .boolean, .int, .int, .int, .int, .int, .int, .int, .int, .int, .int, .int, .int, .int, .int, .int, .int, .int, (.object "jdk/internal/access/JavaLangAccess"), .int]
  resolved := Array.replicate 378 none
  statics := none }

def pool16 : Array CpInfo := pool [(1, u "java/lang/Cloneable"), (0, .class_ 1), (0, u "java/lang/Object"), (0, .class_ 3)] 3

/-- java/lang/Cloneable -/
def k16 : Class := { plain "java/lang/Cloneable" (some 0) with
  accessFlags := 1537
  interfaces := #[]
  cf := some (fileOf pool16 2 #[] #[] 1537 4 #[] #[])
  fields := #[]
  methods := #[]
  instanceTypes := #[]
  staticTypes := #[]
  resolved := Array.replicate 8 none
  statics := none }

/-- the primitive byte -/
def k17 : Class := { plain "byte" none with kind := .primitive 'B', accessFlags := 0x411 }
/-- [B -/
def k18 : Class := { plain "[B" (some 0) with kind := .array 17 .byte, interfaces := #[16, 2], accessFlags := 1041 }

/-- the primitive char -/
def k19 : Class := { plain "char" none with kind := .primitive 'C', accessFlags := 0x411 }
/-- [C -/
def k20 : Class := { plain "[C" (some 0) with kind := .array 19 .char, interfaces := #[16, 2], accessFlags := 1041 }

/-- the primitive int -/
def k21 : Class := { plain "int" none with kind := .primitive 'I', accessFlags := 0x411 }
/-- [I -/
def k22 : Class := { plain "[I" (some 0) with kind := .array 21 .int, interfaces := #[16, 2], accessFlags := 1041 }

def heap : Heap := #[{ cls := 7, slots := #[.long 0, .int 1, .null, .int 0, .null, .int 0, .int 0], vm := .statics 7 },
  { cls := 10, slots := #[.ref 3, .ref 4, .ref 5, .null], vm := .statics 10 },
  { cls := 14, slots := #[.null, .null, .null], vm := .statics 14 },
  { cls := 10, slots := #[.null, .int 0, .int 0], vm := .none },
  { cls := 10, slots := #[.null, .int 1, .int 0], vm := .none },
  { cls := 10, slots := #[.null, .int 2, .int 0], vm := .none }]
def classes : Array Class := #[k0, k1, k2, k3, k4, k5, k6, k7, k8, k9, k10, k11, k12, k13, k14, k15, k16, k17, k18, k19, k20, k21, k22]
def interned : List (Array UInt16 × Addr) := []
def slotsUsed : Nat := 23
def theMethod : MethodId := ⟨1, 1⟩
def args0 : Array Value := #[.int 1, .int 2, .int 3, .int 4, .int 5]
def aboutOver (below : List Frame) : State where
  vm := { classes := classes, interned := interned.toArray }
  heap := heap
  slotsUsed := slotsUsed
  threads := #[{ frames := .invoking theMethod args0 :: below }]
def below0 : List Frame := [.native { method := ⟨0, 0⟩, args := #[] }]
def about1 : State := aboutOver below0
def p0 : Program := .bare "" "" ""
def e0 : Env := launch0.env 0 0 0
theorem w_frames : about1.frames = Frame.invoking theMethod args0 :: below0 := rfl
set_option maxRecDepth 65536 in
theorem w_args : argsFit about1.vm theMethod args0 = true := by decide +kernel
set_option maxRecDepth 65536 in
theorem w_heap : heapFits about1 = true := by decide +kernel
set_option maxRecDepth 65536 in
theorem w_runnable : about1.curStatus? = some .runnable := by decide +kernel
set_option maxRecDepth 65536 in
theorem w_alone : about1.alone = true := by decide +kernel
set_option maxRecDepth 65536 in
theorem w_named : about1.methodNamed? x = some theMethod := by decide +kernel
set_option maxRecDepth 65536 in
theorem w_hears : about1.hears theMethod below0 = true := by decide +kernel
set_option maxRecDepth 65536 in
theorem w_ripe : about1.ripe theMethod args0 below0 = true := by decide +kernel
theorem w_running : about1.status = .running := rfl
set_option maxRecDepth 65536 in
theorem w_room : about1.hasRoom e0.platform room_1 = true :=
  launch0.hasRoom_least _ room_1 (by decide +kernel) (by decide +kernel) (by decide +kernel) (by decide +kernel) (by decide +kernel) (by decide +kernel)
theorem allAtoms_all (ts : List Jvm.Cond) (a : Array Jvm.Value) (st : Jvm.State) : (allAtoms ts).before a st = ts.all (fun c => c.before a st) := by
  induction ts with
  | nil => rfl
  | cons c t ih =>
    show (Jvm.Cond.and c (allAtoms t)).before a st = _
    rw [Jvm.Cond.before_and, ih, List.all_cons]
def words1 : List Jvm.Cond := Jvm.Cond.code x code maxLocals ret :: tables_1
/-- a 'code' word, met by the world's own term for the bytes: nothing is compared byte by byte -/
theorem code_word {y : MethodName} {bytes : ByteArray} {mx : Nat} {rt : Option FieldType} {a : Array Value} {s : State} {m : MethodId} {meth : Method} {c : Code} (h1 : s.methodNamed? y = some m) (h2 : s.vm.method? m = some meth) (h3 : meth.code = some c) (h4 : c.code = bytes)
    (h5 : (c.maxLocals == mx && c.exceptionTable.isEmpty && decide (c.maxStack ≤ mostOperands) && decide (meth.sig.returnType = rt) && !meth.locks && decide (parseMethodDescriptor y.desc = some meth.sig)) = true) : (Jvm.Cond.code y bytes mx rt).before a s = true := by
  simp only [Bool.and_eq_true, beq_iff_eq, Bool.not_eq_true', decide_eq_true_eq] at h5
  obtain ⟨⟨⟨⟨⟨g1, g2⟩, g3⟩, g4⟩, g5⟩, g6⟩ := h5
  simp [Cond.before, Cond.holds, Cond.value, h1, h2, h3, h4, g1, g2, g3, g4, g5, g6]
def isCode : Jvm.Cond → Bool
  | .code _ _ _ _ => true
  | _ => false
theorem all_split {L : List Jvm.Cond} {P : Jvm.Cond → Bool} (h1 : L.all (fun c => isCode c || P c) = true) (h2 : ∀ c ∈ L.filter isCode, P c = true) : L.all P = true := by
  refine List.all_eq_true.mpr fun c hc => ?_
  have h := List.all_eq_true.mp h1 c hc
  rcases Bool.eq_false_or_eq_true (isCode c) with hi | hi
  · exact h2 c (List.mem_filter.mpr ⟨hc, hi⟩)
  · simpa [hi] using h
set_option maxRecDepth 65536 in
theorem w_c0 : (Jvm.Cond.code x code maxLocals ret).before args0 about1 = true := code_word (m := ⟨1, 1⟩) (meth := k1m1) (c := k1c1) (by decide +kernel) rfl rfl rfl (by decide +kernel)
set_option maxRecDepth 65536 in
theorem w_c1 : (Jvm.Cond.code ({ cls := "com/example/tremorgrid/tremorgrid/app/OptionIsGivenByPinLaw", name := "mk", desc := "(I)Ljava/lang/String;" } : Jvm.MethodName) method_4_code (3 : Nat) (Option.some (Jvm.ClassFile.FieldType.object "java/lang/String"))).before args0 about1 = true := code_word (m := ⟨1, 3⟩) (meth := k1m3) (c := k1c3) (by decide +kernel) rfl rfl rfl (by decide +kernel)
set_option maxRecDepth 65536 in
theorem w_c2 : (Jvm.Cond.code ({ cls := "java/lang/String", name := "<init>", desc := "([C)V" } : Jvm.MethodName) jdk_42_method_3_code (2 : Nat) (Option.none : Option Jvm.ClassFile.FieldType)).before args0 about1 = true := code_word (m := ⟨7, 1⟩) (meth := k7m1) (c := k7c1) (by decide +kernel) rfl rfl rfl (by decide +kernel)
set_option maxRecDepth 65536 in
theorem w_c3 : (Jvm.Cond.code ({ cls := "java/lang/String", name := "<init>", desc := "([CIILjava/lang/Void;)V" } : Jvm.MethodName) jdk_42_method_149_code (6 : Nat) (Option.none : Option Jvm.ClassFile.FieldType)).before args0 about1 = true := code_word (m := ⟨7, 3⟩) (meth := k7m3) (c := k7c3) (by decide +kernel) rfl rfl rfl (by decide +kernel)
set_option maxRecDepth 65536 in
theorem w_c4 : (Jvm.Cond.code ({ cls := "java/lang/Object", name := "<init>", desc := "()V" } : Jvm.MethodName) object_method_1_code (1 : Nat) (Option.none : Option Jvm.ClassFile.FieldType)).before args0 about1 = true := code_word (m := ⟨0, 0⟩) (meth := k0m0) (c := k0c0) (by decide +kernel) rfl rfl rfl (by decide +kernel)
set_option maxRecDepth 65536 in
theorem w_c5 : (Jvm.Cond.code ({ cls := "com/example/tremorgrid/tremorgrid/app/OptionIsGivenByPinLaw", name := "ch", desc := "(II)I" } : Jvm.MethodName) method_3_code (2 : Nat) (Option.some Jvm.ClassFile.FieldType.int)).before args0 about1 = true := code_word (m := ⟨1, 2⟩) (meth := k1m2) (c := k1c2) (by decide +kernel) rfl rfl rfl (by decide +kernel)
set_option maxRecDepth 65536 in
theorem w_c6 : (Jvm.Cond.code ({ cls := "java/lang/StringUTF16", name := "compress", desc := "([CII)[B" } : Jvm.MethodName) jdk_52_method_16_code (6 : Nat) (Option.some (Jvm.ClassFile.FieldType.array Jvm.ClassFile.FieldType.byte))).before args0 about1 = true := code_word (m := ⟨8, 2⟩) (meth := k8m2) (c := k8c2) (by decide +kernel) rfl rfl rfl (by decide +kernel)
set_option maxRecDepth 65536 in
theorem w_c7 : (Jvm.Cond.code ({ cls := "java/lang/StringUTF16", name := "compress", desc := "([CI[BII)I" } : Jvm.MethodName) jdk_52_method_21_code (7 : Nat) (Option.some Jvm.ClassFile.FieldType.int)).before args0 about1 = true := code_word (m := ⟨8, 3⟩) (meth := k8m3) (c := k8c3) (by decide +kernel) rfl rfl rfl (by decide +kernel)
set_option maxRecDepth 65536 in
theorem w_c8 : (Jvm.Cond.code ({ cls := "java/lang/StringUTF16", name := "coderFromArrayLen", desc := "([BI)B" } : Jvm.MethodName) jdk_52_method_15_code (2 : Nat) (Option.some Jvm.ClassFile.FieldType.byte)).before args0 about1 = true := code_word (m := ⟨8, 1⟩) (meth := k8m1) (c := k8c1) (by decide +kernel) rfl rfl rfl (by decide +kernel)
set_option maxRecDepth 65536 in
theorem w_c9 : (Jvm.Cond.code ({ cls := "com/example/tremorgrid/tremorgrid/app/Arguments$Option", name := "<init>", desc := "(Ljava/lang/String;Ljava/lang/String;Lcom/example/tremorgrid/tremorgrid/app/Arguments$Kind;Ljava/lang/String;)V" } : Jvm.MethodName) prog_16_method_1_code (5 : Nat) (Option.none : Option Jvm.ClassFile.FieldType)).before args0 about1 = true := code_word (m := ⟨12, 0⟩) (meth := k12m0) (c := k12c0) (by decide +kernel) rfl rfl rfl (by decide +kernel)
set_option maxRecDepth 65536 in
theorem w_c10 : (Jvm.Cond.code ({ cls := "java/lang/Record", name := "<init>", desc := "()V" } : Jvm.MethodName) jdk_30_method_1_code (1 : Nat) (Option.none : Option Jvm.ClassFile.FieldType)).before args0 about1 = true := code_word (m := ⟨11, 0⟩) (meth := k11m0) (c := k11c0) (by decide +kernel) rfl rfl rfl (by decide +kernel)
set_option maxRecDepth 65536 in
theorem w_c11 : (Jvm.Cond.code ({ cls := "com/example/tremorgrid/tremorgrid/app/OptionIsGivenByPinLaw", name := "same", desc := "(II)Z" } : Jvm.MethodName) method_5_code (4 : Nat) (Option.some Jvm.ClassFile.FieldType.boolean)).before args0 about1 = true := code_word (m := ⟨1, 4⟩) (meth := k1m4) (c := k1c4) (by decide +kernel) rfl rfl rfl (by decide +kernel)
set_option maxRecDepth 65536 in
theorem w_c12 : (Jvm.Cond.code ({ cls := "com/example/tremorgrid/tremorgrid/app/Arguments$Option", name := "isGivenBy", desc := "(Ljava/lang/String;)Z" } : Jvm.MethodName) prog_16_method_4_code (2 : Nat) (Option.some Jvm.ClassFile.FieldType.boolean)).before args0 about1 = true := code_word (m := ⟨12, 1⟩) (meth := k12m1) (c := k12c1) (by decide +kernel) rfl rfl rfl (by decide +kernel)
set_option maxRecDepth 65536 in
theorem w_c13 : (Jvm.Cond.code ({ cls := "java/lang/String", name := "equals", desc := "(Ljava/lang/Object;)Z" } : Jvm.MethodName) jdk_42_method_66_code (3 : Nat) (Option.some Jvm.ClassFile.FieldType.boolean)).before args0 about1 = true := code_word (m := ⟨7, 2⟩) (meth := k7m2) (c := k7c2) (by decide +kernel) rfl rfl rfl (by decide +kernel)
set_option maxRecDepth 65536 in
theorem w_c14 : (Jvm.Cond.code ({ cls := "java/lang/StringLatin1", name := "equals", desc := "([B[B)Z" } : Jvm.MethodName) jdk_43_method_13_code (3 : Nat) (Option.some Jvm.ClassFile.FieldType.boolean)).before args0 about1 = true := code_word (m := ⟨13, 1⟩) (meth := k13m1) (c := k13c1) (by decide +kernel) rfl rfl rfl (by decide +kernel)
def codes1 : List Jvm.Cond := [Jvm.Cond.code x code maxLocals ret, Jvm.Cond.code ({ cls := "com/example/tremorgrid/tremorgrid/app/OptionIsGivenByPinLaw", name := "mk", desc := "(I)Ljava/lang/String;" } : Jvm.MethodName) method_4_code (3 : Nat) (Option.some (Jvm.ClassFile.FieldType.object "java/lang/String")), Jvm.Cond.code ({ cls := "java/lang/String", name := "<init>", desc := "([C)V" } : Jvm.MethodName) jdk_42_method_3_code (2 : Nat) (Option.none : Option Jvm.ClassFile.FieldType), Jvm.Cond.code ({ cls := "java/lang/String", name := "<init>", desc := "([CIILjava/lang/Void;)V" } : Jvm.MethodName) jdk_42_method_149_code (6 : Nat) (Option.none : Option Jvm.ClassFile.FieldType), Jvm.Cond.code ({ cls := "java/lang/Object", name := "<init>", desc := "()V" } : Jvm.MethodName) object_method_1_code (1 : Nat) (Option.none : Option Jvm.ClassFile.FieldType), Jvm.Cond.code ({ cls := "com/example/tremorgrid/tremorgrid/app/OptionIsGivenByPinLaw", name := "ch", desc := "(II)I" } : Jvm.MethodName) method_3_code (2 : Nat) (Option.some Jvm.ClassFile.FieldType.int), Jvm.Cond.code ({ cls := "java/lang/StringUTF16", name := "compress", desc := "([CII)[B" } : Jvm.MethodName) jdk_52_method_16_code (6 : Nat) (Option.some (Jvm.ClassFile.FieldType.array Jvm.ClassFile.FieldType.byte)), Jvm.Cond.code ({ cls := "java/lang/StringUTF16", name := "compress", desc := "([CI[BII)I" } : Jvm.MethodName) jdk_52_method_21_code (7 : Nat) (Option.some Jvm.ClassFile.FieldType.int), Jvm.Cond.code ({ cls := "java/lang/StringUTF16", name := "coderFromArrayLen", desc := "([BI)B" } : Jvm.MethodName) jdk_52_method_15_code (2 : Nat) (Option.some Jvm.ClassFile.FieldType.byte), Jvm.Cond.code ({ cls := "com/example/tremorgrid/tremorgrid/app/Arguments$Option", name := "<init>", desc := "(Ljava/lang/String;Ljava/lang/String;Lcom/example/tremorgrid/tremorgrid/app/Arguments$Kind;Ljava/lang/String;)V" } : Jvm.MethodName) prog_16_method_1_code (5 : Nat) (Option.none : Option Jvm.ClassFile.FieldType), Jvm.Cond.code ({ cls := "java/lang/Record", name := "<init>", desc := "()V" } : Jvm.MethodName) jdk_30_method_1_code (1 : Nat) (Option.none : Option Jvm.ClassFile.FieldType), Jvm.Cond.code ({ cls := "com/example/tremorgrid/tremorgrid/app/OptionIsGivenByPinLaw", name := "same", desc := "(II)Z" } : Jvm.MethodName) method_5_code (4 : Nat) (Option.some Jvm.ClassFile.FieldType.boolean), Jvm.Cond.code ({ cls := "com/example/tremorgrid/tremorgrid/app/Arguments$Option", name := "isGivenBy", desc := "(Ljava/lang/String;)Z" } : Jvm.MethodName) prog_16_method_4_code (2 : Nat) (Option.some Jvm.ClassFile.FieldType.boolean), Jvm.Cond.code ({ cls := "java/lang/String", name := "equals", desc := "(Ljava/lang/Object;)Z" } : Jvm.MethodName) jdk_42_method_66_code (3 : Nat) (Option.some Jvm.ClassFile.FieldType.boolean), Jvm.Cond.code ({ cls := "java/lang/StringLatin1", name := "equals", desc := "([B[B)Z" } : Jvm.MethodName) jdk_43_method_13_code (3 : Nat) (Option.some Jvm.ClassFile.FieldType.boolean)]
set_option maxRecDepth 65536 in
theorem codes_eq : words1.filter isCode = codes1 := rfl
theorem w_codes : ∀ c ∈ words1.filter isCode, c.before args0 about1 = true := by
  rw [codes_eq]
  intro c hc
  simp only [codes1, List.mem_cons, List.not_mem_nil, or_false] at hc
  rcases hc with rfl | rfl | rfl | rfl | rfl | rfl | rfl | rfl | rfl | rfl | rfl | rfl | rfl | rfl | rfl
  · exact w_c0
  · exact w_c1
  · exact w_c2
  · exact w_c3
  · exact w_c4
  · exact w_c5
  · exact w_c6
  · exact w_c7
  · exact w_c8
  · exact w_c9
  · exact w_c10
  · exact w_c11
  · exact w_c12
  · exact w_c13
  · exact w_c14
set_option maxRecDepth 65536 in
theorem w_t1 : (words1.take 24).all (fun c => isCode c || c.before args0 about1) = true := by decide +kernel
set_option maxRecDepth 65536 in
theorem w_t2 : ((words1.drop 24).take 24).all (fun c => isCode c || c.before args0 about1) = true := by decide +kernel
set_option maxRecDepth 65536 in
theorem w_t3 : (((words1.drop 24).drop 24).take 24).all (fun c => isCode c || c.before args0 about1) = true := by decide +kernel
set_option maxRecDepth 65536 in
theorem w_t4 : (((words1.drop 24).drop 24).drop 24).all (fun c => isCode c || c.before args0 about1) = true := by decide +kernel
theorem w_tables : (allAtoms (Jvm.Cond.code x code maxLocals ret :: tables_1)).before args0 about1 = true := by
  rw [allAtoms_all]
  show words1.all (fun c => c.before args0 about1) = true
  refine all_split ?_ w_codes
  rw [← List.take_append_drop 24 words1, List.all_append, w_t1, ← List.take_append_drop 24 (words1.drop 24), List.all_append, w_t2, ← List.take_append_drop 24 ((words1.drop 24).drop 24), List.all_append, w_t3, w_t4]
  rfl
set_option maxRecDepth 65536 in
theorem w_rest : rest_1_c.before args0 about1 = true := by decide +kernel
set_option maxRecDepth 65536 in
theorem w_case : (Jvm.Cond.and given_1 narrow_1).before args0 about1 = true := by decide +kernel
set_option maxRecDepth 65536 in
theorem w_consts : constsHeld consts_1 about1 := Jvm.Lit.constsHeldB_iff.mp (by decide +kernel)
theorem w_applies : (headSpec (Jvm.Cond.code x code maxLocals ret :: tables_1) room_1).applies x e0.platform about1 = true :=
  (Spec.applies_iff w_frames).mpr ⟨w_running, w_runnable, w_alone, w_named, w_hears, w_ripe, w_room, w_tables⟩
theorem atStart : AtStart classFile x code maxLocals ret World_1 tables_1 room_1 Calls_1 rest_1 Pre_1 launch0 p0 e0 about1 theMethod args0 below0 :=
  ⟨lists_1, trivial, launch0.admits_env _ _ _, launch0.least_env, fairChoices_fair.cas, fairChoices_fair.clock, w_frames, w_args, w_heap, w_applies, ⟨w_consts, trivial⟩, w_rest, w_case⟩
end start1
theorem witness_1 : WitnessClaimed_1 := ⟨start1.p0, start1.e0, start1.about1, start1.theMethod, start1.args0, start1.below0, start1.atStart⟩
end Jvm.Pilot.@@N@@
