import JvmDerived
import JvmDerived.Pilot.@@N@@Statement
import JvmDerived.Pilot.@@N@@Code
set_option linter.unusedVariables false
set_option linter.unusedSimpArgs false
/- laws to paste: Road.backV, Road.eqW, Road.codOf, Road.lenW, Road.chN (cut by pick.py; bodies as the Statement names them) -/
namespace Jvm.Pilot.@@N@@
namespace StrChars
open Jvm Sem ClassFile Op Lib Jvm.Stand Jvm.Free.XT Jvm.Free.ALB Jvm.Free.JM Jvm.Free
open Jvm.Lib.Cold (StaticIs)
/-- a char array whose places are chars -/
def Ch (a : Addr) (A : Cell) (U : State) : Prop := Arr .char a A U ∧ Typed .char A
theorem Ch.mv {a : Addr} {A : Cell} {U U' : State} (h : Ch a A U) (hal : U.vm.Alike U'.vm) (hh : U'.heap = U.heap) : Ch a A U' := ⟨h.1.mv hal hh, h.2⟩
theorem Ch.keep {a : Addr} {A : Cell} {U U' : State} (h : Ch a A U) (hal : U.vm.Alike U'.vm) (hk : U'.heap[a]? = some A) : Ch a A U' := ⟨h.1.keep hal hk, h.2⟩
/-- what place i of a char[]'s cell holds -/
def cv (A : Cell) (i : Nat) : Int32 := match A.slots[i]? with | some (.int x) => x | _ => 0
theorem Ch.get {a : Addr} {A : Cell} {U : State} (h : Ch a A U) {i : Nat} (hi : i < A.slots.size) : A.slots[i]? = some (.int (cv A i)) := by
  have e := Array.getElem?_eq_getElem hi
  have f := h.2 i _ e
  unfold cv; rw [e]
  generalize A.slots[i] = v at f
  cases v <;> simp [fits] at f ⊢
/-- the byte that i2b leaves of a char -/
def lo8 (x : Int32) : Int32 := x.toInt8.toInt32
theorem fits_lo8 (y : Int32) : fits .byte (.int (lo8 y)) = true := by
  have h1 := y.toInt8.le_toInt
  have h2 := y.toInt8.toInt_lt
  simp only [lo8, fits, Bool.and_eq_true, decide_eq_true_eq, Int32.le_iff_toInt_le, Int8.toInt_toInt32, show (-128 : Int32).toInt = -128 from by decide, show (127 : Int32).toInt = 127 from by decide]
  omega
/-- A' is A but that each place j of lo .. hi - 1 holds f j -/
def Laid (A A' : Cell) (lo hi : Nat) (f : Nat → Value) : Prop := A'.cls = A.cls ∧ A'.vm = A.vm ∧ A'.slots.size = A.slots.size ∧ ∀ i, A'.slots[i]? = if lo ≤ i ∧ i < hi then some (f i) else A.slots[i]?
theorem Laid.zero (A : Cell) (lo : Nat) (f : Nat → Value) : Laid A A lo (lo + 0) f := ⟨rfl, rfl, rfl, fun i => by rw [if_neg (by omega)]⟩
theorem Laid.step {A Ak : Cell} {lo k : Nat} {f : Nat → Value} {v : Value} (h : Laid A Ak lo k f) (hlo : lo ≤ k) (hk : k < Ak.slots.size) (hv : v = f k) : Laid A (Ak.setSlot k v) lo (k + 1) f := by
  refine ⟨h.1, h.2.1, by simpa [Cell.setSlot] using h.2.2.1, fun i => ?_⟩
  by_cases e : k = i
  · subst e; rw [Cell.slots_setSlot_self v hk, if_pos (by omega), hv]
  · rw [Cell.slots_setSlot_ne v e, h.2.2.2 i]
    by_cases q : lo ≤ i ∧ i < k
    · rw [if_pos q, if_pos (by omega)]
    · rw [if_neg q, if_neg (by omega)]
def U16 : String := "java/lang/StringUTF16"
namespace Cmp5
def yN : MethodName := ⟨"java/lang/StringUTF16", "compress", "([CI[BII)I"⟩
abbrev yB : ByteArray := jdk_52_method_21_code
theorem d0 : decode yB 0 = .ok (.iconst 0, 1) := by decide +kernel
theorem d1 : decode yB 1 = .ok (.istore 5, 2) := by decide +kernel
theorem d3 : decode yB 3 = .ok (.iload 5, 2) := by decide +kernel
theorem d5 : decode yB 5 = .ok (.iload 4, 2) := by decide +kernel
theorem d7 : decode yB 7 = .ok (.if_icmp (.ge) 37, 3) := by decide +kernel
theorem d10 : decode yB 10 = .ok (.aload_n 0, 1) := by decide +kernel
theorem d11 : decode yB 11 = .ok (.iload_n 1, 1) := by decide +kernel
theorem d12 : decode yB 12 = .ok (.caload, 1) := by decide +kernel
theorem d13 : decode yB 13 = .ok (.istore 6, 2) := by decide +kernel
theorem d15 : decode yB 15 = .ok (.iload 6, 2) := by decide +kernel
theorem d17 : decode yB 17 = .ok (.sipush 255, 3) := by decide +kernel
theorem d20 : decode yB 20 = .ok (.if_icmp (.le) 6, 3) := by decide +kernel
theorem d26 : decode yB 26 = .ok (.aload_n 2, 1) := by decide +kernel
theorem d27 : decode yB 27 = .ok (.iload_n 3, 1) := by decide +kernel
theorem d28 : decode yB 28 = .ok (.iload 6, 2) := by decide +kernel
theorem d30 : decode yB 30 = .ok (.i2b, 1) := by decide +kernel
theorem d31 : decode yB 31 = .ok (.bastore, 1) := by decide +kernel
theorem d32 : decode yB 32 = .ok (.iinc 1 1, 3) := by decide +kernel
theorem d35 : decode yB 35 = .ok (.iinc 3 1, 3) := by decide +kernel
theorem d38 : decode yB 38 = .ok (.iinc 5 1, 3) := by decide +kernel
theorem d41 : decode yB 41 = .ok (.goto (-38), 3) := by decide +kernel
theorem d44 : decode yB 44 = .ok (.iload 4, 2) := by decide +kernel
theorem d46 : decode yB 46 = .ok (.ireturn, 1) := by decide +kernel
def site : List Cond := []
def tab : Cond := tabOf yN yB 7 (some .int) site
def P (b : Addr) (A : Cell) (d : Addr) (B : Cell) (o q len : Nat) (args : Array Value) (s : State) : Prop := args = #[.ref b, .int (Int32.ofNat o), .ref d, .int (Int32.ofNat q), .int (Int32.ofNat len)] ∧ Ch b A s ∧ Arr .byte d B s ∧ b ≠ d ∧ o + len ≤ A.slots.size ∧ q + len ≤ B.slots.size ∧ ∀ i, i < len → ¬ 255 < cv A (o + i)
def E (b : Addr) (A : Cell) (d : Addr) (B : Cell) (o q len : Nat) (r : Option Value) (s u : State) : Prop := r = some (.int (Int32.ofNat len)) ∧ ∃ B', Put d B' s u ∧ Laid B B' q (q + len) (fun j => Value.int (lo8 (cv A (o + (j - q)))))
/-- no char of the range above 255: len; the places written hold each char's low byte -/
theorem law (l : Launch) (b : Addr) (A : Cell) (d : Addr) (B : Cell) (o q len : Nat) : Law l yN 5 5 0 0 yB 7 (some .int) site (P b A d B o q len) (E b A d B o q len) (copyLocs d q len) 0 0 := by
  refine Law.of_walk (plainFor_of_name (by decide +kernel)) (by decide +kernel) (by decide +kernel) (by decide) (fun _ _ h => by rw [h.1]; rfl) (fun _ U U' hal hh h => ⟨h.1, h.2.1.mv hal hh, h.2.2.1.mv hal hh, h.2.2.2⟩) (fun r U U' V V' h1 hal h2 h => ⟨h.1, h.2.elim fun B' q => ⟨B', q.1.mv h1 h2, q.2⟩⟩) ?_
  intro p e s m args below meth c s₁ X0 hexec hbytes hml hret hlk hnm hown hh0 W hP
  obtain ⟨rfl, hA, hB, hne, l1, l2, hp⟩ := hP
  have c1 : Steps p.tables e below (s₁.setTop (entryFrame m #[.ref b, .int (Int32.ofNat o), .ref d, .int (Int32.ofNat q), .int (Int32.ofNat len)] 7)) (s₁.setTop (mkF m 0 #[.val (.ref b), .val (.int (Int32.ofNat o)), .val (.ref d), .val (.int (Int32.ofNat q)), .val (.int (Int32.ofNat len)), .unset, .unset] [])) := entry rfl
  have hA0 := hA.1.mv X0.warmed.alike hh0
  have hB0 := hB.mv X0.warmed.alike hh0
  have a31 := hA.1.2.2.2
  have c2 : Steps p.tables e below (s₁.setTop (entryFrame m #[.ref b, .int (Int32.ofNat o), .ref d, .int (Int32.ofNat q), .int (Int32.ofNat len)] 7)) (s₁.setTop (mkF m 3 #[.val (.ref b), .val (.int (Int32.ofNat o)), .val (.ref d), .val (.int (Int32.ofNat q)), .val (.int (Int32.ofNat len)), .val (.int 0), .unset] [])) := c1.trans (by
    refine iconstV X0.here hexec rfl 0 (hb hbytes d0) (by decide) ?_
    refine XS.istore X0.here hexec rfl (hb hbytes d1) rfl rfl ?_
    exact Steps.refl _)
  have loop : ∀ (r i : Nat), i + r = len → ∀ (z : Slot), (z = .unset ∨ ∃ w, z = .val w ∧ w.category = 1) → ∀ (Tl : State) (Bk : Cell), Stand p l e { frames := 0, locals := 0, cells := 0, slots := 0 } s m #[.ref b, .int (Int32.ofNat o), .ref d, .int (Int32.ofNat q), .int (Int32.ofNat len)] below meth c Tl ([] ++ copyLocs d q i) 0 0 → Put d Bk s₁ Tl → Laid B Bk q (q + i) (fun j => Value.int (lo8 (cv A (o + (j - q))))) →
      Steps p.tables e below (s₁.setTop (entryFrame m #[.ref b, .int (Int32.ofNat o), .ref d, .int (Int32.ofNat q), .int (Int32.ofNat len)] 7)) (Tl.setTop (mkF m 3 #[.val (.ref b), .val (.int (Int32.ofNat (o + i))), .val (.ref d), .val (.int (Int32.ofNat (q + i))), .val (.int (Int32.ofNat len)), .val (.int (Int32.ofNat i)), z] [])) → ∃ (T' : State) (B' : Cell) (z' : Slot), Stand p l e { frames := 0, locals := 0, cells := 0, slots := 0 } s m #[.ref b, .int (Int32.ofNat o), .ref d, .int (Int32.ofNat q), .int (Int32.ofNat len)] below meth c T' ([] ++ copyLocs d q len) 0 0 ∧ Put d B' s₁ T' ∧ Laid B B' q (q + len) (fun j => Value.int (lo8 (cv A (o + (j - q))))) ∧
      Steps p.tables e below (s₁.setTop (entryFrame m #[.ref b, .int (Int32.ofNat o), .ref d, .int (Int32.ofNat q), .int (Int32.ofNat len)] 7)) (T'.setTop (mkF m 3 #[.val (.ref b), .val (.int (Int32.ofNat (o + len))), .val (.ref d), .val (.int (Int32.ofNat (q + len))), .val (.int (Int32.ofNat len)), .val (.int (Int32.ofNat len)), z'] [])) := by
    intro r
    induction r with
    | zero =>
      intro i hi z hz Tl Bk Xl pl fl cl
      have hil : i = len := by omega
      rw [hil] at Xl fl cl
      exact ⟨Tl, Bk, z, Xl, pl, fl, cl⟩
    | succ r ih =>
      intro i hi z hz Tl Bk Xl pl fl cl
      have all := X0.warmed.alike.symm.trans Xl.warmed.alike
      have hAl := hA0.keep all (pl.other hne hA0.1)
      have hBk := hB0.like all pl.1 fl.1 fl.2.1 fl.2.2.1
      have hlt : q + i < Bk.slots.size := by rw [fl.2.2.1]; omega
      have c3 : Steps p.tables e below (s₁.setTop (entryFrame m #[.ref b, .int (Int32.ofNat o), .ref d, .int (Int32.ofNat q), .int (Int32.ofNat len)] 7)) (Tl.setTop (mkF m 12 #[.val (.ref b), .val (.int (Int32.ofNat (o + i))), .val (.ref d), .val (.int (Int32.ofNat (q + i))), .val (.int (Int32.ofNat len)), .val (.int (Int32.ofNat i)), z] [.int (Int32.ofNat (o + i)), .ref b])) := cl.trans (by
        refine XS.iload Xl.here hexec rfl (hb hbytes d3) rfl ?_
        refine XS.iload Xl.here hexec rfl (hb hbytes d5) rfl ?_
        refine XS.icmpNo Xl.here hexec rfl (hb hbytes d7) rfl (ii_ge_f (lt32 (by omega) (by omega))) ?_
        refine XS.aloadN Xl.here hexec rfl (hb hbytes d10) rfl rfl ?_
        refine XS.iloadN Xl.here hexec rfl (hb hbytes d11) rfl ?_
        exact Steps.refl _)
      have c4 : Steps p.tables e below (s₁.setTop (entryFrame m #[.ref b, .int (Int32.ofNat o), .ref d, .int (Int32.ofNat q), .int (Int32.ofNat len)] 7)) (Tl.setTop (mkF m 13 #[.val (.ref b), .val (.int (Int32.ofNat (o + i))), .val (.ref d), .val (.int (Int32.ofNat (q + i))), .val (.int (Int32.ofNat len)), .val (.int (Int32.ofNat i)), z] [.int (cv A (o + i))])) := c3.trans (by
        refine Xl.aget hexec hAl rfl (hA.get (i := o + i) (by omega)) rfl rfl (hb hbytes d12) ?_
        exact Steps.refl _)
      have c5 : Steps p.tables e below (s₁.setTop (entryFrame m #[.ref b, .int (Int32.ofNat o), .ref d, .int (Int32.ofNat q), .int (Int32.ofNat len)] 7)) (Tl.setTop (mkF m 15 #[.val (.ref b), .val (.int (Int32.ofNat (o + i))), .val (.ref d), .val (.int (Int32.ofNat (q + i))), .val (.int (Int32.ofNat len)), .val (.int (Int32.ofNat i)), .val (.int (cv A (o + i)))] [])) := c4.trans (by
        refine XS.istoreS Xl.here hexec rfl (hb hbytes d13) rfl rfl hz ?_
        exact Steps.refl _)
      have c6 : Steps p.tables e below (s₁.setTop (entryFrame m #[.ref b, .int (Int32.ofNat o), .ref d, .int (Int32.ofNat q), .int (Int32.ofNat len)] 7)) (Tl.setTop (mkF m 31 #[.val (.ref b), .val (.int (Int32.ofNat (o + i))), .val (.ref d), .val (.int (Int32.ofNat (q + i))), .val (.int (Int32.ofNat len)), .val (.int (Int32.ofNat i)), .val (.int (cv A (o + i)))] [.int (lo8 (cv A (o + i))), .int (Int32.ofNat (q + i)), .ref d])) := c5.trans (by
        refine XS.iload Xl.here hexec rfl (hb hbytes d15) rfl ?_
        refine sipushV Xl.here hexec rfl 255 (hb hbytes d17) (by decide) ?_
        refine XS.icmpYes Xl.here hexec rfl (pc0 := 20) rfl (hb hbytes d20) rfl (ii_le_t (hp i (by omega))) (by decide) rfl ?_
        refine XS.aloadN Xl.here hexec rfl (hb hbytes d26) rfl rfl ?_
        refine XS.iloadN Xl.here hexec rfl (hb hbytes d27) rfl ?_
        refine XS.iload Xl.here hexec rfl (hb hbytes d28) rfl ?_
        refine i2b Xl.here hexec rfl (hb hbytes d30) rfl ?_
        exact Steps.refl _)
      obtain ⟨T7, X7, p7, st7⟩ := Xl.aput hexec hBk rfl hlt rfl (fits_lo8 (cv A (o + i))) (g := (mkF m 31 #[.val (.ref b), .val (.int (Int32.ofNat (o + i))), .val (.ref d), .val (.int (Int32.ofNat (q + i))), .val (.int (Int32.ofNat len)), .val (.int (Int32.ofNat i)), .val (.int (cv A (o + i)))] [.int (lo8 (cv A (o + i))), .int (Int32.ofNat (q + i)), .ref d])) rfl (rest := []) rfl (hb hbytes d31)
      have c8 : Steps p.tables e below (s₁.setTop (entryFrame m #[.ref b, .int (Int32.ofNat o), .ref d, .int (Int32.ofNat q), .int (Int32.ofNat len)] 7)) (T7.setTop (mkF m 32 #[.val (.ref b), .val (.int (Int32.ofNat (o + i))), .val (.ref d), .val (.int (Int32.ofNat (q + i))), .val (.int (Int32.ofNat len)), .val (.int (Int32.ofNat i)), .val (.int (cv A (o + i)))] [])) := c6.trans (st7 _ (Steps.refl _))
      have c9 : Steps p.tables e below (s₁.setTop (entryFrame m #[.ref b, .int (Int32.ofNat o), .ref d, .int (Int32.ofNat q), .int (Int32.ofNat len)] 7)) (T7.setTop (mkF m 3 #[.val (.ref b), .val (.int (Int32.ofNat (o + i) + 1)), .val (.ref d), .val (.int (Int32.ofNat (q + i) + 1)), .val (.int (Int32.ofNat len)), .val (.int (Int32.ofNat i + 1)), .val (.int (cv A (o + i)))] [])) := c8.trans (by
        refine iincV X7.here hexec rfl 1 (hb hbytes d32) (by decide) rfl rfl ?_
        refine iincV X7.here hexec rfl 1 (hb hbytes d35) (by decide) rfl rfl ?_
        refine iincV X7.here hexec rfl 1 (hb hbytes d38) (by decide) rfl rfl ?_
        refine XS.goto X7.here hexec rfl (pc0 := 41) rfl (hb hbytes d41) (by decide) rfl ?_
        exact Steps.refl _)
      have c10 : Steps p.tables e below (s₁.setTop (entryFrame m #[.ref b, .int (Int32.ofNat o), .ref d, .int (Int32.ofNat q), .int (Int32.ofNat len)] 7)) (T7.setTop (mkF m 3 #[.val (.ref b), .val (.int (Int32.ofNat (o + (i + 1)))), .val (.ref d), .val (.int (Int32.ofNat (q + (i + 1)))), .val (.int (Int32.ofNat len)), .val (.int (Int32.ofNat (i + 1))), .val (.int (cv A (o + i)))] [])) := by
        have := c9
        rw [succ32, succ32, succ32] at this
        exact this
      exact ih (i + 1) (by omega) _ (Or.inr ⟨_, rfl, rfl⟩) T7 _ (by rw [copyLocs_step, ← List.append_assoc]; exact X7) (pl.trans p7) (fl.step (by omega) hlt (by simp)) c10
  obtain ⟨T9, B9, z9, X9, p9, f9, g9⟩ := loop len 0 (by omega) .unset (Or.inl rfl) s₁ B (by simpa [copyLocs] using X0) ⟨hB0.1, fun _ _ => rfl, rfl⟩ (Laid.zero _ _ _) c2
  have c11 : Steps p.tables e below (s₁.setTop (entryFrame m #[.ref b, .int (Int32.ofNat o), .ref d, .int (Int32.ofNat q), .int (Int32.ofNat len)] 7)) (T9.setTop (mkF m 46 #[.val (.ref b), .val (.int (Int32.ofNat (o + len))), .val (.ref d), .val (.int (Int32.ofNat (q + len))), .val (.int (Int32.ofNat len)), .val (.int (Int32.ofNat len)), z9] [.int (Int32.ofNat len)])) := g9.trans (by
    refine XS.iload X9.here hexec rfl (hb hbytes d3) rfl ?_
    refine XS.iload X9.here hexec rfl (hb hbytes d5) rfl ?_
    refine XS.icmpYes X9.here hexec rfl (pc0 := 7) rfl (hb hbytes d7) rfl (ii_ge_t (nlt32 (by omega) (Nat.le_refl _))) (by decide) rfl ?_
    refine XS.iload X9.here hexec rfl (hb hbytes d44) rfl ?_
    exact Steps.refl _)
  exact ⟨T9, some (.int (Int32.ofNat len)), _, _, _, X9, by simp, rfl, rfl, (fun h => by cases h), ⟨rfl, B9, p9.from hh0, f9⟩, fun fs hl => c11.trans (X9.ireturnOut hexec hret rfl (Or.inl rfl) (hb hbytes d46) hl)⟩
end Cmp5
namespace Cmp3
def yN : MethodName := ⟨"java/lang/StringUTF16", "compress", "([CII)[B"⟩
abbrev yB : ByteArray := jdk_52_method_16_code
theorem d0 : decode yB 0 = .ok (.iload_n 2, 1) := by decide +kernel
theorem d1 : decode yB 1 = .ok (.newarray .byte, 2) := by decide +kernel
theorem d3 : decode yB 3 = .ok (.astore_n 3, 1) := by decide +kernel
theorem d4 : decode yB 4 = .ok (.aload_n 0, 1) := by decide +kernel
theorem d5 : decode yB 5 = .ok (.iload_n 1, 1) := by decide +kernel
theorem d6 : decode yB 6 = .ok (.aload_n 3, 1) := by decide +kernel
theorem d7 : decode yB 7 = .ok (.iconst 0, 1) := by decide +kernel
theorem d8 : decode yB 8 = .ok (.iload_n 2, 1) := by decide +kernel
theorem d9 : decode yB 9 = .ok (.invokestatic 115, 3) := by decide +kernel
theorem d12 : decode yB 12 = .ok (.istore 4, 2) := by decide +kernel
theorem d14 : decode yB 14 = .ok (.iload 4, 2) := by decide +kernel
theorem d16 : decode yB 16 = .ok (.iload_n 2, 1) := by decide +kernel
theorem d17 : decode yB 17 = .ok (.if_icmp (.eq) 40, 3) := by decide +kernel
theorem d57 : decode yB 57 = .ok (.aload_n 3, 1) := by decide +kernel
theorem d58 : decode yB 58 = .ok (.areturn, 1) := by decide +kernel
def site : List Cond := [.arrayClass .byte, Cmp5.tab] ++ staticW U16 115 Cmp5.yN
def tab : Cond := tabOf yN yB 6 (some (.array .byte)) site
def P (b : Addr) (A : Cell) (o len : Nat) (args : Array Value) (s : State) : Prop := args = #[.ref b, .int (Int32.ofNat o), .int (Int32.ofNat len)] ∧ Ch b A s ∧ o + len ≤ A.slots.size ∧ len ≤ 536870912 ∧ ∀ i, i < len → ¬ 255 < cv A (o + i)
def E (b : Addr) (A : Cell) (o len : Nat) (r : Option Value) (s u : State) : Prop := NewArr .byte "[B" len (fun j => .int (lo8 (cv A (o + j)))) r s u ∧ u.heap.size = s.heap.size + 1
/-- no char of the range above 255: a new byte[] of their low bytes -/
theorem law (l : Launch) (b : Addr) (A : Cell) (o len : Nat) : Law l yN 3 3 1 18 yB 6 (some (.array .byte)) site (P b A o len) (E b A o len) [] 1 len := by
  refine Law.of_walk (plainFor_of_name (by decide +kernel)) (by decide +kernel) (by decide +kernel) (by decide) (fun _ _ h => by rw [h.1]; rfl) (fun _ U U' hal hh h => ⟨h.1, h.2.1.mv hal hh, h.2.2⟩) (fun r U U' V V' h1 hal h2 h => ⟨NewArr.mv r U U' V V' h1 hal h2 h.1, by rw [h1, h2]; exact h.2⟩) ?_
  intro p e s m args below meth c s₁ X0 hexec hbytes hml hret hlk hnm hown hh0 W hP
  obtain ⟨rfl, hA, l1, l2, hp⟩ := hP
  have a31 := hA.1.2.2.2
  have c1 : Steps p.tables e below (s₁.setTop (entryFrame m #[.ref b, .int (Int32.ofNat o), .int (Int32.ofNat len)] 6)) (s₁.setTop (mkF m 0 #[.val (.ref b), .val (.int (Int32.ofNat o)), .val (.int (Int32.ofNat len)), .unset, .unset, .unset] [])) := entry rfl
  have c2 : Steps p.tables e below (s₁.setTop (entryFrame m #[.ref b, .int (Int32.ofNat o), .int (Int32.ofNat len)] 6)) (s₁.setTop (mkF m 1 #[.val (.ref b), .val (.int (Int32.ofNat o)), .val (.int (Int32.ofNat len)), .unset, .unset, .unset] [.int (Int32.ofNat len)])) := c1.trans (by
    refine XS.iloadN X0.here hexec rfl (hb hbytes d0) rfl ?_
    exact Steps.refl _)
  obtain ⟨T3, B3, X3, ba3, bs3, bv3, bh3, bf3, st3⟩ := X0.anew hexec (atype := .byte) (wk W (.arrayClass .byte)) rfl (by show len * 1 ≤ _; omega) (by omega) (g := (mkF m 1 #[.val (.ref b), .val (.int (Int32.ofNat o)), .val (.int (Int32.ofNat len)), .unset, .unset, .unset] [.int (Int32.ofNat len)])) rfl (hb hbytes d1) (rest := []) rfl (Nat.le_refl _) (by show 0 + len ≤ len; omega)
  rw [hh0] at ba3 st3
  have kp3 : XT.Kept s T3 := (XT.Kept.of_eq hh0).push bh3
  have hA3 := hA.keep X3.warmed.alike (kp3 _ _ hA.1.1)
  have hne : b ≠ s.heap.size := hA.1.ne
  have c4 : Steps p.tables e below (s₁.setTop (entryFrame m #[.ref b, .int (Int32.ofNat o), .int (Int32.ofNat len)] 6)) (T3.setTop (mkF m 3 #[.val (.ref b), .val (.int (Int32.ofNat o)), .val (.int (Int32.ofNat len)), .unset, .unset, .unset] [.ref s.heap.size])) := c2.trans (st3 _ (Steps.refl _))
  have c5 : Steps p.tables e below (s₁.setTop (entryFrame m #[.ref b, .int (Int32.ofNat o), .int (Int32.ofNat len)] 6)) (T3.setTop (mkF m 9 #[.val (.ref b), .val (.int (Int32.ofNat o)), .val (.int (Int32.ofNat len)), .val (.ref s.heap.size), .unset, .unset] [.int (Int32.ofNat len), .int 0, .ref s.heap.size, .int (Int32.ofNat o), .ref b])) := c4.trans (by
    refine XS.astoreN X3.here hexec rfl (hb hbytes d3) rfl rfl rfl ?_
    refine XS.aloadN X3.here hexec rfl (hb hbytes d4) rfl rfl ?_
    refine XS.iloadN X3.here hexec rfl (hb hbytes d5) rfl ?_
    refine XS.aloadN X3.here hexec rfl (hb hbytes d6) rfl rfl ?_
    refine iconstV X3.here hexec rfl 0 (hb hbytes d7) (by decide) ?_
    refine XS.iloadN X3.here hexec rfl (hb hbytes d8) rfl ?_
    exact Steps.refl _)
  obtain ⟨v6, T6, X6, E6, g6⟩ := X3.callS hexec (Cmp5.law l b A s.heap.size B3 o 0 len) hown (wks W (staticW U16 115 Cmp5.yN)) (wk W Cmp5.tab) (W := 0) (Nat.le_of_ble_eq_true rfl) (Nat.le_of_ble_eq_true rfl) (Nat.le_refl _) (by show 0 + len + 0 ≤ len; omega) (g := (mkF m 9 #[.val (.ref b), .val (.int (Int32.ofNat o)), .val (.int (Int32.ofNat len)), .val (.ref s.heap.size), .unset, .unset] [.int (Int32.ofNat len), .int (Int32.ofNat 0), .ref s.heap.size, .int (Int32.ofNat o), .ref b])) rfl (by rw [hml]; rfl) c5 (argsL := [.ref b, .int (Int32.ofNat o), .ref s.heap.size, .int (Int32.ofNat 0), .int (Int32.ofNat len)]) (rest := []) rfl rfl (by show 2 * 0 + 0 ≤ _; decide) (hb hbytes d9) (⟨rfl, hA3, ba3, hne, l1, by rw [bs3]; simp, hp⟩)
  obtain ⟨rfl, B6, p6, f6⟩ := E6
  have c7 : Steps p.tables e below (s₁.setTop (entryFrame m #[.ref b, .int (Int32.ofNat o), .int (Int32.ofNat len)] 6)) (T6.setTop (mkF m 12 #[.val (.ref b), .val (.int (Int32.ofNat o)), .val (.int (Int32.ofNat len)), .val (.ref s.heap.size), .unset, .unset] [.int (Int32.ofNat len)])) := g6
  have c8 : Steps p.tables e below (s₁.setTop (entryFrame m #[.ref b, .int (Int32.ofNat o), .int (Int32.ofNat len)] 6)) (T6.setTop (mkF m 58 #[.val (.ref b), .val (.int (Int32.ofNat o)), .val (.int (Int32.ofNat len)), .val (.ref s.heap.size), .val (.int (Int32.ofNat len)), .unset] [.ref s.heap.size])) := c7.trans (by
    refine XS.istore X6.here hexec rfl (hb hbytes d12) rfl rfl ?_
    refine XS.iload X6.here hexec rfl (hb hbytes d14) rfl ?_
    refine XS.iloadN X6.here hexec rfl (hb hbytes d16) rfl ?_
    refine XS.icmpYes X6.here hexec rfl (pc0 := 17) rfl (hb hbytes d17) rfl (ii_eq_t rfl) (by decide) rfl ?_
    refine XS.aloadN X6.here hexec rfl (hb hbytes d57) rfl rfl ?_
    exact Steps.refl _)
  have X8 := X6.wide (L' := []) (cells' := 1) (slots' := len) (fun x hx hlt => by
    simp only [List.nil_append, copyLocs, List.mem_map, List.mem_range] at hx
    obtain ⟨i, -, rfl⟩ := hx
    exact absurd hlt (Nat.lt_irrefl _)) (Nat.le_refl _) (by omega)
  exact ⟨T6, some (.ref s.heap.size), _, _, _, X8, rfl, rfl, rfl, (fun h => by cases h), ⟨⟨rfl, B6, ba3.like (X3.warmed.alike.symm.trans X6.warmed.alike) p6.1 f6.1 f6.2.1 f6.2.2.1, f6.2.1.trans bv3, by rw [X6.warmed.alike.findClass, f6.1]; exact bf3, by rw [f6.2.2.1, bs3]; simp, fun j hj => by rw [f6.2.2.2 j, if_pos (by omega)]; rfl, kp3.put p6 (Nat.le_refl _)⟩, by rw [p6.2.2, bh3, hh0]; simp⟩, fun fs hl => c8.trans (X8.areturnOut hexec rfl hret rfl (hb hbytes d58) hl)⟩
end Cmp3
namespace CodL
def yN : MethodName := ⟨"java/lang/StringUTF16", "coderFromArrayLen", "([BI)B"⟩
abbrev yB : ByteArray := jdk_52_method_15_code
theorem d0 : decode yB 0 = .ok (.iload_n 1, 1) := by decide +kernel
theorem d1 : decode yB 1 = .ok (.aload_n 0, 1) := by decide +kernel
theorem d2 : decode yB 2 = .ok (.arraylength, 1) := by decide +kernel
theorem d3 : decode yB 3 = .ok (.isub, 1) := by decide +kernel
theorem d4 : decode yB 4 = .ok (.bipush 31, 2) := by decide +kernel
theorem d6 : decode yB 6 = .ok (.iushr, 1) := by decide +kernel
theorem d7 : decode yB 7 = .ok (.i2b, 1) := by decide +kernel
theorem d8 : decode yB 8 = .ok (.ireturn, 1) := by decide +kernel
def site : List Cond := []
def tab : Cond := tabOf yN yB 2 (some .byte) site
def P (d : Addr) (B : Cell) (args : Array Value) (s : State) : Prop := args = #[.ref d, .int (Int32.ofNat B.slots.size)] ∧ Arr .byte d B s
def E (r : Option Value) (s u : State) : Prop := XT.PureE (some (.int 0)) r s u
/-- an array as long as the number of chars: LATIN1 -/
theorem law (l : Launch) (d : Addr) (B : Cell) : Law l yN 2 2 0 0 yB 2 (some .byte) site (P d B) E [] 0 0 := by
  refine Law.of_walk (plainFor_of_name (by decide +kernel)) (by decide +kernel) (by decide +kernel) (by decide) (fun _ _ h => by rw [h.1]; rfl) (fun _ U U' hal hh h => ⟨h.1, h.2.mv hal hh⟩) (fun r U U' V V' h1 hal h2 h => XT.PureE.mv r U U' V V' h1 hal h2 h) ?_
  intro p e s m args below meth c s₁ X0 hexec hbytes hml hret hlk hnm hown hh0 W hP
  obtain ⟨rfl, hB⟩ := hP
  have hB0 := hB.mv X0.warmed.alike hh0
  have c1 : Steps p.tables e below (s₁.setTop (entryFrame m #[.ref d, .int (Int32.ofNat B.slots.size)] 2)) (s₁.setTop (mkF m 0 #[.val (.ref d), .val (.int (Int32.ofNat B.slots.size))] [])) := entry rfl
  have c2 : Steps p.tables e below (s₁.setTop (entryFrame m #[.ref d, .int (Int32.ofNat B.slots.size)] 2)) (s₁.setTop (mkF m 2 #[.val (.ref d), .val (.int (Int32.ofNat B.slots.size))] [.ref d, .int (Int32.ofNat B.slots.size)])) := c1.trans (by
    refine XS.iloadN X0.here hexec rfl (hb hbytes d0) rfl ?_
    refine XS.aloadN X0.here hexec rfl (hb hbytes d1) rfl rfl ?_
    exact Steps.refl _)
  have c3 : Steps p.tables e below (s₁.setTop (entryFrame m #[.ref d, .int (Int32.ofNat B.slots.size)] 2)) (s₁.setTop (mkF m 8 #[.val (.ref d), .val (.int (Int32.ofNat B.slots.size))] [.int (lo8 (ushr (Int32.ofNat B.slots.size - Int32.ofNat B.slots.size) 31))])) := c2.trans (by
    refine X0.alen hexec hB0 rfl rfl (hb hbytes d2) ?_
    refine XS.isub X0.here hexec rfl (hb hbytes d3) rfl ?_
    refine bipushV X0.here hexec rfl 31 (hb hbytes d4) (by decide) ?_
    refine iushr X0.here hexec rfl (hb hbytes d6) rfl ?_
    refine i2b X0.here hexec rfl (hb hbytes d7) rfl ?_
    exact Steps.refl _)
  have e0 : lo8 (ushr (Int32.ofNat B.slots.size - Int32.ofNat B.slots.size) 31) = 0 := by rw [Int32.sub_self]; decide
  rw [e0] at c3
  exact ⟨s₁, some (.int 0), _, _, _, X0, rfl, rfl, rfl, (fun h => by cases h), ⟨rfl, hh0⟩, fun fs hl => c3.trans (X0.ireturnOut hexec hret rfl (Or.inr (Or.inr (Or.inl rfl))) (hb hbytes d8) hl)⟩
end CodL
/-- the String at a is Latin-1 over a new byte[] (the heap's one new cell): the low bytes of the len chars of A from o on; every cell but a is kept -/
def Got (a : Addr) (D : Cell) (fV fC : Field) (A : Cell) (o len : Nat) (r : Option Value) (s u : State) : Prop := r = none ∧ ∃ D' V : Cell, Blank "java/lang/String" a D' u ∧ Same D D' [fV.slot, fC.slot] ∧ D'.slots[fV.slot]? = some (.ref s.heap.size) ∧ D'.slots[fC.slot]? = some (.int 0) ∧ Arr .byte s.heap.size V u ∧ V.vm = .none ∧ u.vm.findClass "[B" = some V.cls ∧ V.slots.size = len ∧ (∀ j, j < len → V.slots[j]? = some (.int (lo8 (cv A (o + j))))) ∧ (∀ (y : Addr) (c : Cell), y ≠ a → s.heap[y]? = some c → u.heap[y]? = some c) ∧ u.heap.size = s.heap.size + 1
theorem Got.mv {a : Addr} {D A : Cell} {fV fC : Field} {o len : Nat} : ∀ r (U U' V V' : State), U'.heap = U.heap → V.vm.Alike V'.vm → V'.heap = V.heap → Got a D fV fC A o len r U V → Got a D fV fC A o len r U' V' :=
  fun r U U' V V' h1 hal h2 ⟨e0, D', X, a1, a2, a3, a4, a5, a6, a7, a8, a9, a10, a11⟩ => ⟨e0, D', X, a1.mv hal h2, a2, by rw [h1]; exact a3, a4, by rw [h1]; exact a5.mv hal h2, a6, by rw [hal.findClass]; exact a7, a8, a9, by rw [h1, h2]; exact a10, by rw [h1, h2]; exact a11⟩
namespace New4
def yN : MethodName := ⟨"java/lang/String", "<init>", "([CIILjava/lang/Void;)V"⟩
abbrev yB : ByteArray := jdk_42_method_149_code
theorem d0 : decode yB 0 = .ok (.aload_n 0, 1) := by decide +kernel
theorem d1 : decode yB 1 = .ok (.invokespecial 1, 3) := by decide +kernel
theorem d4 : decode yB 4 = .ok (.iload_n 3, 1) := by decide +kernel
theorem d5 : decode yB 5 = .ok (.ifCond (.ne) 22, 3) := by decide +kernel
theorem d27 : decode yB 27 = .ok (.getstatic 38, 3) := by decide +kernel
theorem d30 : decode yB 30 = .ok (.ifCond (.eq) 28, 3) := by decide +kernel
theorem d33 : decode yB 33 = .ok (.aload_n 1, 1) := by decide +kernel
theorem d34 : decode yB 34 = .ok (.iload_n 2, 1) := by decide +kernel
theorem d35 : decode yB 35 = .ok (.iload_n 3, 1) := by decide +kernel
theorem d36 : decode yB 36 = .ok (.invokestatic 177, 3) := by decide +kernel
theorem d39 : decode yB 39 = .ok (.astore 5, 2) := by decide +kernel
theorem d41 : decode yB 41 = .ok (.aload_n 0, 1) := by decide +kernel
theorem d42 : decode yB 42 = .ok (.aload 5, 2) := by decide +kernel
theorem d44 : decode yB 44 = .ok (.iload_n 3, 1) := by decide +kernel
theorem d45 : decode yB 45 = .ok (.invokestatic 47, 3) := by decide +kernel
theorem d48 : decode yB 48 = .ok (.putfield 15, 3) := by decide +kernel
theorem d51 : decode yB 51 = .ok (.aload_n 0, 1) := by decide +kernel
theorem d52 : decode yB 52 = .ok (.aload 5, 2) := by decide +kernel
theorem d54 : decode yB 54 = .ok (.putfield 9, 3) := by decide +kernel
theorem d57 : decode yB 57 = .ok (.return_, 1) := by decide +kernel
def site : List Cond := [.fieldLink "java/lang/String" 38 "java/lang/String" "COMPACT_STRINGS" "Z", Cmp3.tab, CodL.tab, .laysFinal "java/lang/String" "java/lang/String" "value" "[B", .fieldLink "java/lang/String" 9 "java/lang/String" "value" "[B", .laysFinal "java/lang/String" "java/lang/String" "coder" "B", .fieldLink "java/lang/String" 15 "java/lang/String" "coder" "B"] ++ objW "java/lang/String" 1 ++ staticW "java/lang/String" 177 Cmp3.yN ++ staticW "java/lang/String" 47 CodL.yN
def tab : Cond := tabOf yN yB 6 none site
def P (a : Addr) (D : Cell) (fV fC : Field) (b : Addr) (A : Cell) (z : Int32) (o len : Nat) (args : Array Value) (s : State) : Prop := args = #[.ref a, .ref b, .int (Int32.ofNat o), .int (Int32.ofNat len), .null] ∧ Blank "java/lang/String" a D s ∧ Found "java/lang/String" "value" "[B" fV s ∧ Found "java/lang/String" "coder" "B" fC s ∧ Ch b A s ∧ StaticIs s "java/lang/String" "COMPACT_STRINGS" "Z" (.int z) ∧ ¬ z = 0 ∧ 0 < len ∧ o + len ≤ A.slots.size ∧ len ≤ 536870912 ∧ ∀ i, i < len → ¬ 255 < cv A (o + i)
def E (a : Addr) (D : Cell) (fV fC : Field) (A : Cell) (o len : Nat) (r : Option Value) (s u : State) : Prop := Got a D fV fC A o len r s u
/-- len > 0, no char of the range above 255: a Latin-1 String of their low bytes -/
theorem law (l : Launch) (a : Addr) (D : Cell) (fV fC : Field) (b : Addr) (A : Cell) (z : Int32) (o len : Nat) : Law l yN 5 4 2 35 yB 6 none site (P a D fV fC b A z o len) (E a D fV fC A o len) [⟨a, fC.slot⟩, ⟨a, fV.slot⟩] 1 len := by
  refine Law.of_walk (plainFor_of_name (by decide +kernel)) (by decide +kernel) (by decide +kernel) (by decide) (fun _ _ h => by rw [h.1]; rfl) (fun _ U U' hal hh h => ⟨h.1, h.2.1.mv hal hh, h.2.2.1.al hal, h.2.2.2.1.al hal, h.2.2.2.2.1.mv hal hh, h.2.2.2.2.2.1.there hal hh, h.2.2.2.2.2.2⟩) (fun r U U' V V' h1 hal h2 h => Got.mv r U U' V V' h1 hal h2 h) ?_
  intro p e s m args below meth c s₁ X0 hexec hbytes hml hret hlk hnm hown hh0 W hP
  obtain ⟨rfl, hB, f1, f2, hA, s1, hz, l0, l1, l2, hp⟩ := hP
  have a31 := hA.1.2.2.2
  have c1 : Steps p.tables e below (s₁.setTop (entryFrame m #[.ref a, .ref b, .int (Int32.ofNat o), .int (Int32.ofNat len), .null] 6)) (s₁.setTop (mkF m 0 #[.val (.ref a), .val (.ref b), .val (.int (Int32.ofNat o)), .val (.int (Int32.ofNat len)), .val .null, .unset] [])) := entry rfl
  have c2 : Steps p.tables e below (s₁.setTop (entryFrame m #[.ref a, .ref b, .int (Int32.ofNat o), .int (Int32.ofNat len), .null] 6)) (s₁.setTop (mkF m 1 #[.val (.ref a), .val (.ref b), .val (.int (Int32.ofNat o)), .val (.int (Int32.ofNat len)), .val .null, .unset] [.ref a])) := c1.trans (by
    refine XS.aloadN X0.here hexec rfl (hb hbytes d0) rfl rfl ?_
    exact Steps.refl _)
  obtain ⟨T3, X3, q3, st3⟩ := X0.oinit hexec hown (wks W (objW "java/lang/String" 1)) (g := (mkF m 1 #[.val (.ref a), .val (.ref b), .val (.int (Int32.ofNat o)), .val (.int (Int32.ofNat len)), .val .null, .unset] [.ref a])) rfl (by rw [hml]; rfl) (rest := []) rfl (hb hbytes d1) (W := 0) (by show 2 * 0 + 0 ≤ _; decide) (Nat.le_of_ble_eq_true rfl) (Nat.le_of_ble_eq_true rfl)
  have hh3 := q3.trans hh0
  have c4 : Steps p.tables e below (s₁.setTop (entryFrame m #[.ref a, .ref b, .int (Int32.ofNat o), .int (Int32.ofNat len), .null] 6)) (T3.setTop (mkF m 27 #[.val (.ref a), .val (.ref b), .val (.int (Int32.ofNat o)), .val (.int (Int32.ofNat len)), .val .null, .unset] [])) := (c2.trans (st3 _ (Steps.refl _))).trans (by
    refine XS.iloadN X3.here hexec rfl (hb hbytes d4) rfl ?_
    refine XS.ifYes X3.here hexec rfl (pc0 := 5) rfl (hb hbytes d5) rfl (i0_ne_t (nz32 (by omega) l0)) (by decide) rfl ?_
    exact Steps.refl _)
  obtain ⟨T5, X5, q5, st5⟩ := X3.sget hexec hown (wk W (.fieldLink "java/lang/String" 38 "java/lang/String" "COMPACT_STRINGS" "Z")) s1 (fun _ _ h => by rw [hh3]; exact h) (g := (mkF m 27 #[.val (.ref a), .val (.ref b), .val (.int (Int32.ofNat o)), .val (.int (Int32.ofNat len)), .val .null, .unset] [])) rfl (hb hbytes d27)
  have hh5 := q5.trans hh3
  have c6 : Steps p.tables e below (s₁.setTop (entryFrame m #[.ref a, .ref b, .int (Int32.ofNat o), .int (Int32.ofNat len), .null] 6)) (T5.setTop (mkF m 30 #[.val (.ref a), .val (.ref b), .val (.int (Int32.ofNat o)), .val (.int (Int32.ofNat len)), .val .null, .unset] [.int z])) := c4.trans (st5 _ (Steps.refl _))
  have c7 : Steps p.tables e below (s₁.setTop (entryFrame m #[.ref a, .ref b, .int (Int32.ofNat o), .int (Int32.ofNat len), .null] 6)) (T5.setTop (mkF m 36 #[.val (.ref a), .val (.ref b), .val (.int (Int32.ofNat o)), .val (.int (Int32.ofNat len)), .val .null, .unset] [.int (Int32.ofNat len), .int (Int32.ofNat o), .ref b])) := c6.trans (by
    refine XS.ifNo X5.here hexec rfl (hb hbytes d30) rfl (i0_eq_f hz) ?_
    refine XS.aloadN X5.here hexec rfl (hb hbytes d33) rfl rfl ?_
    refine XS.iloadN X5.here hexec rfl (hb hbytes d34) rfl ?_
    refine XS.iloadN X5.here hexec rfl (hb hbytes d35) rfl ?_
    exact Steps.refl _)
  obtain ⟨v8, T8, X8, E8, g8⟩ := X5.callS hexec (Cmp3.law l b A o len) hown (wks W (staticW "java/lang/String" 177 Cmp3.yN)) (wk W Cmp3.tab) (W := 0) (Nat.le_of_ble_eq_true rfl) (Nat.le_of_ble_eq_true rfl) (Nat.le_refl _) (by show 0 + len ≤ len; omega) (g := (mkF m 36 #[.val (.ref a), .val (.ref b), .val (.int (Int32.ofNat o)), .val (.int (Int32.ofNat len)), .val .null, .unset] [.int (Int32.ofNat len), .int (Int32.ofNat o), .ref b])) rfl (by rw [hml]; rfl) c7 (argsL := [.ref b, .int (Int32.ofNat o), .int (Int32.ofNat len)]) (rest := []) rfl rfl (by show 2 * 0 + 0 ≤ _; decide) (hb hbytes d36) (⟨rfl, hA.mv X5.warmed.alike hh5, l1, l2, hp⟩)
  obtain ⟨e8, z8⟩ := E8
  obtain ⟨rfl, N, n1, n2, n3, n4, n5, n6⟩ := NewArr.mv _ T5 s _ _ hh5.symm (Vm.Alike.refl _) rfl e8
  rw [hh5] at z8
  have hB1 := hB.keep X8.warmed.alike (n6 _ _ hB.1)
  have hne : s.heap.size ≠ a := (Nat.ne_of_lt (Array.getElem?_eq_some_iff.mp hB.1).1).symm
  have c9 : Steps p.tables e below (s₁.setTop (entryFrame m #[.ref a, .ref b, .int (Int32.ofNat o), .int (Int32.ofNat len), .null] 6)) (T8.setTop (mkF m 39 #[.val (.ref a), .val (.ref b), .val (.int (Int32.ofNat o)), .val (.int (Int32.ofNat len)), .val .null, .unset] [.ref s.heap.size])) := g8
  have c10 : Steps p.tables e below (s₁.setTop (entryFrame m #[.ref a, .ref b, .int (Int32.ofNat o), .int (Int32.ofNat len), .null] 6)) (T8.setTop (mkF m 45 #[.val (.ref a), .val (.ref b), .val (.int (Int32.ofNat o)), .val (.int (Int32.ofNat len)), .val .null, .val (.ref s.heap.size)] [.int (Int32.ofNat N.slots.size), .ref s.heap.size, .ref a])) := by
    have hc : Steps p.tables e below (s₁.setTop (entryFrame m #[.ref a, .ref b, .int (Int32.ofNat o), .int (Int32.ofNat len), .null] 6)) (T8.setTop (mkF m 45 #[.val (.ref a), .val (.ref b), .val (.int (Int32.ofNat o)), .val (.int (Int32.ofNat len)), .val .null, .val (.ref s.heap.size)] [.int (Int32.ofNat len), .ref s.heap.size, .ref a])) := c9.trans (by
      refine XS.astore X8.here hexec rfl (hb hbytes d39) rfl rfl rfl ?_
      refine XS.aloadN X8.here hexec rfl (hb hbytes d41) rfl rfl ?_
      refine XS.aload X8.here hexec rfl (hb hbytes d42) rfl rfl ?_
      refine XS.iloadN X8.here hexec rfl (hb hbytes d44) rfl ?_
      exact Steps.refl _)
    rw [n4]; exact hc
  obtain ⟨v11, T11, X11, E11, g11⟩ := X8.callS hexec (CodL.law l s.heap.size N) hown (wks W (staticW "java/lang/String" 47 CodL.yN)) (wk W CodL.tab) (W := 1) (Nat.le_of_ble_eq_true rfl) (Nat.le_of_ble_eq_true rfl) (Nat.le_refl _) (by show 0 + len + 0 ≤ len; omega) (g := (mkF m 45 #[.val (.ref a), .val (.ref b), .val (.int (Int32.ofNat o)), .val (.int (Int32.ofNat len)), .val .null, .val (.ref s.heap.size)] [.int (Int32.ofNat N.slots.size), .ref s.heap.size, .ref a])) rfl (by rw [hml]; rfl) c10 (argsL := [.ref s.heap.size, .int (Int32.ofNat N.slots.size)]) (rest := [.ref a]) rfl rfl (by show 2 * 0 + (1 + 0) ≤ _; decide) (hb hbytes d45) (⟨rfl, n1⟩)
  obtain ⟨rfl, q11⟩ := E11
  have hB11 := hB1.mv (X8.warmed.alike.symm.trans X11.warmed.alike) q11
  have c12 : Steps p.tables e below (s₁.setTop (entryFrame m #[.ref a, .ref b, .int (Int32.ofNat o), .int (Int32.ofNat len), .null] 6)) (T11.setTop (mkF m 48 #[.val (.ref a), .val (.ref b), .val (.int (Int32.ofNat o)), .val (.int (Int32.ofNat len)), .val .null, .val (.ref s.heap.size)] [.int 0, .ref a])) := g11
  obtain ⟨T13, X13, p13, bl13, sl13, st13⟩ := X11.finit hexec hown (wk W (.fieldLink "java/lang/String" 15 "java/lang/String" "coder" "B")) (Or.inr ⟨_, (wk W (.laysFinal "java/lang/String" "java/lang/String" "coder" "B"))⟩) (Or.inl ⟨rfl, hnm⟩) f2 (Or.inl rfl) hB11 (t := .byte) (by decide +kernel) rfl (g := (mkF m 48 #[.val (.ref a), .val (.ref b), .val (.int (Int32.ofNat o)), .val (.int (Int32.ofNat len)), .val .null, .val (.ref s.heap.size)] [.int 0, .ref a])) rfl (rest := []) rfl (hb hbytes d48)
  have c14 : Steps p.tables e below (s₁.setTop (entryFrame m #[.ref a, .ref b, .int (Int32.ofNat o), .int (Int32.ofNat len), .null] 6)) (T13.setTop (mkF m 54 #[.val (.ref a), .val (.ref b), .val (.int (Int32.ofNat o)), .val (.int (Int32.ofNat len)), .val .null, .val (.ref s.heap.size)] [.ref s.heap.size, .ref a])) := (c12.trans (st13 _ (Steps.refl _))).trans (by
    refine XS.aloadN X13.here hexec rfl (hb hbytes d51) rfl rfl ?_
    refine XS.aload X13.here hexec rfl (hb hbytes d52) rfl rfl ?_
    exact Steps.refl _)
  obtain ⟨T15, X15, p15, bl15, sl15, st15⟩ := X13.finit hexec hown (wk W (.fieldLink "java/lang/String" 9 "java/lang/String" "value" "[B")) (Or.inr ⟨_, (wk W (.laysFinal "java/lang/String" "java/lang/String" "value" "[B"))⟩) (Or.inl ⟨rfl, hnm⟩) f1 (Or.inl rfl) bl13 (t := (.array .byte)) (by decide +kernel) rfl (g := (mkF m 54 #[.val (.ref a), .val (.ref b), .val (.int (Int32.ofNat o)), .val (.int (Int32.ofNat len)), .val .null, .val (.ref s.heap.size)] [.ref s.heap.size, .ref a])) rfl (rest := []) rfl (hb hbytes d54)
  have c16 : Steps p.tables e below (s₁.setTop (entryFrame m #[.ref a, .ref b, .int (Int32.ofNat o), .int (Int32.ofNat len), .null] 6)) (T15.setTop (mkF m 57 #[.val (.ref a), .val (.ref b), .val (.int (Int32.ofNat o)), .val (.int (Int32.ofNat len)), .val .null, .val (.ref s.heap.size)] [])) := c14.trans (st15 _ (Steps.refl _))
  have ap := apart (Or.inr ⟨_, (wk W (.laysFinal "java/lang/String" "java/lang/String" "value" "[B"))⟩) (Or.inr ⟨_, (wk W (.laysFinal "java/lang/String" "java/lang/String" "coder" "B"))⟩) f1 f2 (t₁ := .array .byte) (t₂ := .byte) (by decide +kernel) (by decide +kernel) (by decide)
  have al := X8.warmed.alike.symm.trans X15.warmed.alike
  have n7 : T11.heap[s.heap.size]? = some N := by rw [q11]; exact n1.1
  exact ⟨T15, none, _, _, _, X15, by simp, rfl, by omega, (fun _ => rfl), ⟨rfl, _, N, bl15, ((Same.refl D _).set _ (by simp)).set _ (by simp), sl15, (Cell.slots_setSlot_ne _ ap).trans sl13, n1.keep al (p15.other hne (p13.other hne n7)), n2, by rw [al.findClass]; exact n3, n4, n5, fun y c h1 h2 => p15.other h1 (p13.other h1 (by rw [q11]; exact n6 y c h2)), by rw [p15.2.2, p13.2.2, q11]; exact z8⟩, fun fs hl => c16.trans (X15.returnOut hexec hret (hb hbytes d57) hl)⟩
end New4
namespace New1
def yN : MethodName := ⟨"java/lang/String", "<init>", "([C)V"⟩
abbrev yB : ByteArray := jdk_42_method_3_code
theorem d0 : decode yB 0 = .ok (.aload_n 0, 1) := by decide +kernel
theorem d1 : decode yB 1 = .ok (.aload_n 1, 1) := by decide +kernel
theorem d2 : decode yB 2 = .ok (.iconst 0, 1) := by decide +kernel
theorem d3 : decode yB 3 = .ok (.aload_n 1, 1) := by decide +kernel
theorem d4 : decode yB 4 = .ok (.arraylength, 1) := by decide +kernel
theorem d5 : decode yB 5 = .ok (.aconst_null, 1) := by decide +kernel
theorem d6 : decode yB 6 = .ok (.invokespecial 27, 3) := by decide +kernel
theorem d9 : decode yB 9 = .ok (.return_, 1) := by decide +kernel
def site : List Cond := [New4.tab] ++ initW "java/lang/String" 27 New4.yN
def tab : Cond := tabOf yN yB 2 none site
def P (a : Addr) (D : Cell) (fV fC : Field) (b : Addr) (A : Cell) (z : Int32) (args : Array Value) (s : State) : Prop := args = #[.ref a, .ref b] ∧ Blank "java/lang/String" a D s ∧ Found "java/lang/String" "value" "[B" fV s ∧ Found "java/lang/String" "coder" "B" fC s ∧ Ch b A s ∧ StaticIs s "java/lang/String" "COMPACT_STRINGS" "Z" (.int z) ∧ ¬ z = 0 ∧ 0 < A.slots.size ∧ A.slots.size ≤ 536870912 ∧ ∀ i, i < A.slots.size → ¬ 255 < cv A i
def E (a : Addr) (D : Cell) (fV fC : Field) (A : Cell) (r : Option Value) (s u : State) : Prop := Got a D fV fC A 0 A.slots.size r s u
/-- new String(chars), not empty, no char above 255: a Latin-1 String of their low bytes -/
theorem law (l : Launch) (a : Addr) (D : Cell) (fV fC : Field) (b : Addr) (A : Cell) (z : Int32) : Law l yN 2 1 3 52 yB 2 none site (P a D fV fC b A z) (E a D fV fC A) [⟨a, fC.slot⟩, ⟨a, fV.slot⟩] 1 A.slots.size := by
  refine Law.of_walk (plainFor_of_name (by decide +kernel)) (by decide +kernel) (by decide +kernel) (by decide) (fun _ _ h => by rw [h.1]; rfl) (fun _ U U' hal hh h => ⟨h.1, h.2.1.mv hal hh, h.2.2.1.al hal, h.2.2.2.1.al hal, h.2.2.2.2.1.mv hal hh, h.2.2.2.2.2.1.there hal hh, h.2.2.2.2.2.2⟩) (fun r U U' V V' h1 hal h2 h => Got.mv r U U' V V' h1 hal h2 h) ?_
  intro p e s m args below meth c s₁ X0 hexec hbytes hml hret hlk hnm hown hh0 W hP
  obtain ⟨rfl, hB, f1, f2, hA, s1, hz, l0, l2, hp⟩ := hP
  have c1 : Steps p.tables e below (s₁.setTop (entryFrame m #[.ref a, .ref b] 2)) (s₁.setTop (mkF m 0 #[.val (.ref a), .val (.ref b)] [])) := entry rfl
  have c2 : Steps p.tables e below (s₁.setTop (entryFrame m #[.ref a, .ref b] 2)) (s₁.setTop (mkF m 6 #[.val (.ref a), .val (.ref b)] [.null, .int (Int32.ofNat A.slots.size), .int 0, .ref b, .ref a])) := c1.trans (by
    refine XS.aloadN X0.here hexec rfl (hb hbytes d0) rfl rfl ?_
    refine XS.aloadN X0.here hexec rfl (hb hbytes d1) rfl rfl ?_
    refine iconstV X0.here hexec rfl 0 (hb hbytes d2) (by decide) ?_
    refine XS.aloadN X0.here hexec rfl (hb hbytes d3) rfl rfl ?_
    refine X0.alen hexec (hA.1.mv X0.warmed.alike hh0) rfl rfl (hb hbytes d4) ?_
    refine XS.aconstNull X0.here hexec rfl (hb hbytes d5) ?_
    exact Steps.refl _)
  obtain ⟨v3, T3, X3, E3, g3⟩ := X0.callN hexec (New4.law l a D fV fC b A z 0 A.slots.size) rfl hown (wks W (initW "java/lang/String" 27 New4.yN)) (W New4.tab (by simp only [site, List.mem_cons, List.mem_append, true_or, or_true])) (W := 0) (Nat.le_of_ble_eq_true rfl) (Nat.le_of_ble_eq_true rfl) (Nat.le_refl _) (by show 0 + A.slots.size ≤ A.slots.size; omega) (g := (mkF m 6 #[.val (.ref a), .val (.ref b)] [.null, .int (Int32.ofNat A.slots.size), .int (Int32.ofNat 0), .ref b, .ref a])) rfl (by rw [hml]; rfl) c2 (argsL := [.ref b, .int (Int32.ofNat 0), .int (Int32.ofNat A.slots.size), .null]) (rest := []) rfl rfl (by show 2 * 0 + 0 ≤ _; decide) (hb hbytes d6) (⟨rfl, hB.mv X0.warmed.alike hh0, f1.al X0.warmed.alike, f2.al X0.warmed.alike, hA.mv X0.warmed.alike hh0, s1.there X0.warmed.alike hh0, hz, l0, by omega, l2, fun i hi => by rw [Nat.zero_add]; exact hp i hi⟩)
  have e0 := Got.mv _ s₁ s _ _ hh0.symm (Vm.Alike.refl _) rfl E3
  obtain rfl := e0.1
  have c4 : Steps p.tables e below (s₁.setTop (entryFrame m #[.ref a, .ref b] 2)) (T3.setTop (mkF m 9 #[.val (.ref a), .val (.ref b)] [])) := g3
  exact ⟨T3, none, _, _, _, X3, by simp, rfl, by omega, (fun _ => rfl), e0, fun fs hl => c4.trans (X3.returnOut hexec hret (hb hbytes d9) hl)⟩
theorem pays {l : Launch} {R : Room} {p : Program} {e : Env} {below : List Frame} {s : State} {sargs : Array Value} {len W : Nat} (a : Addr) (D : Cell) (fV fC : Field) (b : Addr) (A : Cell) (z : Int32) (htab : tab.before sargs s = true) (hfr : 4 ≤ R.frames) (hlo : W + 65 ≤ R.locals) :
    Back l R p e below s sargs yN len W (fun A₁ a₁ => A₁.cells + 1 ≤ R.cells ∧ A₁.slots + A.slots.size ≤ R.slots ∧ P a D fV fC b A z a₁ A₁.U) (fun A₁ _ v₁ B₁ => E a D fV fC A v₁ A₁.U B₁.U ∧ B₁.locs = A₁.locs ++ [⟨a, fC.slot⟩, ⟨a, fV.slot⟩] ∧ B₁.cells = A₁.cells + 1 ∧ B₁.slots = A₁.slots + A.slots.size) :=
  (law l a D fV fC b A z).pays htab hfr (by omega)
end New1
/-- the byte, read back as charAt reads it, is the char -/
theorem lo8_mask {x : Int32} (h0 : ¬ x < 0) (h1 : ¬ 255 < x) : lo8 x &&& 255 = x := by
  have t : ∀ k : Fin 256, lo8 (Int32.ofNat k.val) &&& 255 = Int32.ofNat k.val := by decide +kernel
  rw [Int32.lt_iff_toInt_lt] at h0 h1
  have e0 : (0 : Int32).toInt = 0 := rfl
  have e1 : (255 : Int32).toInt = 255 := rfl
  obtain ⟨k, hk⟩ : ∃ k : Nat, x.toInt = k := ⟨x.toInt.toNat, by omega⟩
  have hx : x = Int32.ofNat k := Int32.toInt_inj.mp (by rw [hk, Int32.toInt_ofNat_small (by omega)])
  rw [hx]
  exact t ⟨k, by omega⟩
end StrChars
namespace StrChars.Road
open Jvm Sem ClassFile Op Lib Jvm.Stand Jvm.Free Jvm.Free.XT
open Jvm.Lib.Cold (StaticIs)
abbrev ST : String := "java/lang/String"
/-- every table word that New1's law asks, flat -/
abbrev words : List Jvm.Cond := [.code New1.yN New1.yB 2 none, .initialized ST, .methodLink ST 27 New4.yN, .instanceMethod New4.yN,
  .code New4.yN New4.yB 6 none, .fieldLink ST 38 ST "COMPACT_STRINGS" "Z", .laysFinal ST ST "value" "[B", .fieldLink ST 9 ST "value" "[B", .laysFinal ST ST "coder" "B", .fieldLink ST 15 ST "coder" "B",
  .methodLink ST 1 Lib.objectInit, .instanceMethod Lib.objectInit, .code Lib.objectInit ⟨#[0xb1]⟩ 1 none, .methodLink ST 177 Cmp3.yN, .static Cmp3.yN, .methodLink ST 47 CodL.yN, .static CodL.yN,
  .code Cmp3.yN Cmp3.yB 6 (some (.array .byte)), .initialized U16, .arrayClass .byte, .methodLink U16 115 Cmp5.yN, .static Cmp5.yN, .code Cmp5.yN Cmp5.yB 7 (some .int), .code CodL.yN CodL.yB 2 (some .byte)]
theorem tab_of {a : Array Value} {s : State} (h : ∀ w ∈ words, w.before a s = true) : New1.tab.before a s = true := by
  have h5 : Cmp5.tab.before a s = true := unparts (wk h (.code Cmp5.yN Cmp5.yB 7 (some .int))) (wks h (.initialized Cmp5.yN.cls :: Cmp5.site))
  have hc : CodL.tab.before a s = true := unparts (wk h (.code CodL.yN CodL.yB 2 (some .byte))) (wks h (.initialized CodL.yN.cls :: CodL.site))
  have q5 : ∀ w ∈ Cmp5.tab :: words, w.before a s = true := fun w hw => (List.mem_cons.mp hw).elim (fun e => e ▸ h5) (h w)
  have h3 : Cmp3.tab.before a s = true := unparts (wk q5 (.code Cmp3.yN Cmp3.yB 6 (some (.array .byte)))) (wks q5 (.initialized Cmp3.yN.cls :: Cmp3.site))
  have q3 : ∀ w ∈ Cmp3.tab :: CodL.tab :: words, w.before a s = true := fun w hw => (List.mem_cons.mp hw).elim (fun e => e ▸ h3) fun hw => (List.mem_cons.mp hw).elim (fun e => e ▸ hc) (h w)
  have h4 : New4.tab.before a s = true := unparts (wk q3 (.code New4.yN New4.yB 6 none)) (wks q3 (.initialized New4.yN.cls :: New4.site))
  have q4 : ∀ w ∈ New4.tab :: words, w.before a s = true := fun w hw => (List.mem_cons.mp hw).elim (fun e => e ▸ h4) (h w)
  exact unparts (wk q4 (.code New1.yN New1.yB 2 none)) (wks q4 (.initialized New1.yN.cls :: New1.site))
/-- the words ride from the start Z to the walk's own state -/
theorem moved {Z s : State} {a0 args : Array Value} (hZ : Z.Warmed39 s.vm) (hw : ∀ d ∈ words, d.before a0 Z = true) : ∀ d ∈ words, d.before args s = true := fun d hd => by
  have q := hw d hd
  have t : ∀ d ∈ words, d = .arrayClass .byte ∨ (d.onTables && d.keepsFace) = true := by decide +kernel
  rcases t d hd with rfl | t
  · exact RoadKit.mvA hZ q
  · exact RoadKit.mv hZ q t
/-- WHAT COMES BACK, over the tables of the start Z: h the heap at the call, h' behind it -/
def Q (Z : State) (x : Addr) (A : Cell) (h : Heap) (v : Option Value) (h' : Heap) (L : List Loc) : Prop := v = none ∧ (∀ y ∈ L, y.base = x) ∧ RoadKit.Keep h h' [x] ∧ h'.size = h.size + 1 ∧ RoadKit.Exa Z h' x ST ∧ RoadKit.Fld Z h' x ST "value" "[B" (.ref h.size) ∧ RoadKit.Fld Z h' x ST "coder" "B" (.int 0) ∧
  (∃ V : Cell, RoadKit.Arr Z h' h.size V .byte ∧ V.vm = .none ∧ Z.vm.findClass "[B" = some V.cls ∧ V.slots.size = A.slots.size ∧ ∀ j, j < A.slots.size → V.slots[j]? = some (.int (lo8 (cv A j)))) ∧
  ∀ (O n d : String) (w : Value), RoadKit.Fld Z h x O n d w → RoadKit.slotOf Z O n d ≠ RoadKit.slotOf Z ST "value" "[B" → RoadKit.slotOf Z O n d ≠ RoadKit.slotOf Z ST "coder" "B" → RoadKit.Fld Z h' x O n d w
/-- **new String(chars) AT A CALL, IN THE ROAD'S FORM**: for specialBack behind newO: x the fresh String, b the char[] with the cell A -/
theorem back {p : Program} {l : Launch} {e : Env} {R : Room} {s : State} {args : Array Value} {below : List Frame} {len W : Nat} {Z : State} {a0 : Array Value} {h : Heap} (hZ : Z.Warmed39 s.vm) (hw : ∀ d ∈ words, d.before a0 Z = true) {kI : Nat} (wi : (Jvm.Cond.instantiable ST kI).before a0 Z = true)
    {x b : Addr} {A : Cell} {z : Int32} {v0 c0 : Value} (E : RoadKit.Exa Z h x ST) (V : RoadKit.Fld Z h x ST "value" "[B" v0) (C : RoadKit.Fld Z h x ST "coder" "B" c0) (K : RoadKit.Arr Z h b A .char) (hty : Typed .char A) (S : RoadKit.Sta Z h ST "COMPACT_STRINGS" "Z" (.int z)) (hz : ¬ z = 0)
    (l0 : 0 < A.slots.size) (l2 : A.slots.size ≤ 536870912) (hp : ∀ i, i < A.slots.size → ¬ 255 < cv A i) (hfr : 4 ≤ R.frames) (hlo : W + 65 ≤ R.locals) :
    Back l R p e below s args New1.yN len W (fun P a => a = #[.ref x, .ref b] ∧ P.U.heap = h ∧ P.cells + 1 ≤ R.cells ∧ P.slots + A.slots.size ≤ R.slots)
      (fun P _ v B => ∃ L, Q Z x A h v B.U.heap L ∧ B.locs = P.locs ++ L ∧ B.cells = P.cells + 1 ∧ B.slots = P.slots + A.slots.size) := by
  intro m meth c P g ig mk a X hg hsize hdg hW hn hp'
  obtain ⟨rfl, rfl, r1, r2⟩ := hp'
  have al : Z.vm.Alike P.U.vm := hZ.alike.trans X.warmed.alike
  obtain ⟨D, cfV, kV, iV, fV, hD, gV, stV, knV, obV, asV, slV⟩ := id V
  obtain ⟨D', cfC, kC, iC, fC, hD', gC, stC, -, -, asC, slC⟩ := id C
  cases hD.symm.trans hD'
  obtain ⟨D2, kD, e1, e2, e3, e4, e5⟩ := id E
  cases hD.symm.trans e1
  obtain ⟨c2, k2, i1, i2, i3, -⟩ := Cond.instantiable_spec wi
  cases e2.symm.trans i1
  cases e3.symm.trans i2
  obtain ⟨kU, u1, u2⟩ := al.2.2 _ _ e3
  have hB : Blank ST x D P.U := ⟨hD, ⟨knV, fun q hq => by rw [hq] at obV; cases obV⟩, by rw [al.findClass]; exact e2, kU, u1, by rw [u2]; exact i3, by rw [u2]; exact e5 i3⟩
  have F1 : Found ST "value" "[B" fV P.U := ⟨SBG.found_only al ⟨cfV, kV, iV, gV⟩, stV⟩
  have F2 : Found ST "coder" "B" fC P.U := ⟨SBG.found_only al ⟨cfC, kC, iC, gC⟩, stC⟩
  have hA : Ch b A P.U := ⟨⟨K.1, State.isArrayOf_alike al K.2.1, K.2.2, by omega⟩, hty⟩
  have hS : StaticIs P.U ST "COMPACT_STRINGS" "Z" (.int z) := by
    obtain ⟨cfS, iS, kS, fS, st, cS, t1, t2, t3, t4, t5, t6, t7⟩ := S
    exact StaticIs.there (s := { Z with heap := P.U.heap }) ⟨cfS, iS, kS, fS, st, cS, t1, t2, t3, t4, t5, (fun q => by rw [q] at t6; cases t6), t7⟩ al rfl
  obtain ⟨v, B, X', ⟨⟨hv, E', V', q1, q2, q3, q4, q5, q6, q7, q8, q9, q10, q11⟩, hl, hc, hs⟩, st⟩ := New1.pays x D fV fC b A z (tab_of (moved hZ hw)) hfr hlo m meth c P g ig mk _ X hg hsize hdg hW hn ⟨r1, r2, rfl, hB, F1, F2, hA, hS, hz, l0, l2, hp⟩
  have al' : Z.vm.Alike B.U.vm := hZ.alike.trans X'.warmed.alike
  have hsz : E'.slots.size = D.slots.size := by
    obtain ⟨-, -, -, kB, w1, w2, w3⟩ := q1
    obtain ⟨kB', y1, y2⟩ := al'.2.2 _ _ e3
    rw [q2.2.1] at w1
    cases w1.symm.trans y1
    rw [w3, e5 i3, y2]
  refine ⟨v, B, X', ⟨_, ⟨hv, ?_, ⟨by omega, fun y cy hy hn' => q10 y cy (by simpa using hn') hy, fun y cy hy => ?_⟩, q11, ⟨E', _, q1.1, by rw [q2.2.1]; exact e2, by rw [q2.2.1]; exact e3, by rw [q2.1]; exact obV, fun _ => by rw [hsz]; exact e5 i3⟩,
    ⟨E', cfV, kV, iV, fV, q1.1, gV, stV, by rw [q2.1]; exact knV, by rw [q2.1]; exact obV, by rw [q2.2.1]; exact asV, q3⟩, ⟨E', cfC, kC, iC, fC, q1.1, gC, stC, by rw [q2.1]; exact knV, by rw [q2.1]; exact obV, by rw [q2.2.1]; exact asC, q4⟩,
    ⟨V', ⟨q5.1, State.isArrayOf_alike al'.symm q5.2.1, q5.2.2.1⟩, q6, by rw [← al'.findClass]; exact q7, q8, fun j hj => by have := q9 j hj; rwa [Nat.zero_add] at this⟩, fun O n d w F n1 n2 => ?_⟩, hl, hc, hs⟩, st⟩
  · intro y hy
    simp only [List.mem_cons, List.not_mem_nil, or_false] at hy
    rcases hy with rfl | rfl <;> rfl
  · by_cases q : y = x
    · subst q
      cases hD.symm.trans hy
      exact ⟨E', q1.1, q2.2.1, q2.1, hsz⟩
    · exact ⟨cy, q10 y cy q hy, rfl, rfl, rfl⟩
  · obtain ⟨D3, cf, k, i, f, g1, g2, g3, g4, g5, g6, g7⟩ := F
    cases hD.symm.trans g1
    simp only [RoadKit.slotOf, g2, gV, gC, Option.map_some, Option.getD_some] at n1 n2
    exact ⟨E', cf, k, i, f, q1.1, g2, g3, by rw [q2.1]; exact g4, by rw [q2.1]; exact g5, by rw [q2.2.1]; exact g6, by rw [q2.2.2 f.slot (by simp [n1, n2])]; exact g7⟩
end StrChars.Road
namespace StrChars.Road
open Jvm Sem ClassFile Op Lib Jvm.Stand Jvm.Free Jvm.Free.XT
/-- WHAT COMES BACK, the byte[] as a list of values -/
def QA (Z : State) (x : Addr) (zn : Int32) (cs : List Int32) (h : Heap) (v : Option Value) (h' : Heap) (L : List Loc) : Prop := v = none ∧ (∀ y ∈ L, y.base = x) ∧ RoadKit.Keep h h' [x] ∧ h'.size = h.size + 1 ∧ RoadKit.Exa Z h' x ST ∧ RoadKit.Fld Z h' x ST "value" "[B" (.ref h.size) ∧ RoadKit.Fld Z h' x ST "coder" "B" (.int 0) ∧
  (∃ kb, Z.vm.findClass "[B" = some kb ∧ RoadKit.Arv Z h' h.size kb .byte zn (cs.map fun c => .int (lo8 c)) (.int 0)) ∧
  ∀ (O n d : String) (w : Value), RoadKit.Fld Z h x O n d w → RoadKit.slotOf Z O n d ≠ RoadKit.slotOf Z ST "value" "[B" → RoadKit.slotOf Z O n d ≠ RoadKit.slotOf Z ST "coder" "B" → RoadKit.Fld Z h' x O n d w
/-- **new String(chars) AT A CALL, THE ARRAYS AS LISTS**: the char[] at b holds cs, not empty, no char above 255 -/
theorem backArv {p : Program} {l : Launch} {e : Env} {R : Room} {s : State} {args : Array Value} {below : List Frame} {len W : Nat} {Z : State} {a0 : Array Value} {h : Heap} (hZ : Z.Warmed39 s.vm) (hw : ∀ d ∈ words, d.before a0 Z = true) {kI : Nat} (wi : (Jvm.Cond.instantiable ST kI).before a0 Z = true)
    {x b : Addr} {k : ClassId} {zn z : Int32} {cs : List Int32} {dv v0 c0 : Value} (E : RoadKit.Exa Z h x ST) (V : RoadKit.Fld Z h x ST "value" "[B" v0) (C : RoadKit.Fld Z h x ST "coder" "B" c0) (K : RoadKit.Arv Z h b k .char zn (cs.map Value.int) dv) (S : RoadKit.Sta Z h ST "COMPACT_STRINGS" "Z" (.int z)) (hz : ¬ z = 0)
    (hlen : zn.toNatClampNeg = cs.length) (h0 : 0 < cs.length) (hbig : cs.length ≤ 536870912) (hall : ∀ c ∈ cs, ¬ 255 < c) (hfr : 4 ≤ R.frames) (hlo : W + 65 ≤ R.locals) :
    Back l R p e below s args New1.yN len W (fun P a => a = #[.ref x, .ref b] ∧ P.U.heap = h ∧ P.cells + 1 ≤ R.cells ∧ P.slots + cs.length ≤ R.slots)
      (fun P _ v B => ∃ L, QA Z x zn cs h v B.U.heap L ∧ B.locs = P.locs ++ L ∧ B.cells = P.cells + 1 ∧ B.slots = P.slots + cs.length) := by
  obtain ⟨A, K1, K2, K3, K4, K5, K6⟩ := K
  have e : A.slots.size = cs.length := K3.trans hlen
  have hat : ∀ (i : Nat) (hi : i < cs.length), A.slots[i]? = some (.int cs[i]) := fun i hi => by rw [K5 i (by omega)]; simp [List.getD_eq_getElem?_getD, hi]
  have hcv : ∀ (i : Nat) (hi : i < cs.length), cv A i = cs[i] := fun i hi => by unfold cv; rw [hat i hi]
  have hty : Typed .char A := fun i v hv => by
    have hi : i < A.slots.size := (Array.getElem?_eq_some_iff.mp hv).1
    have q := K5 i hi
    rw [hv] at q
    rw [Option.some.inj q]
    exact K6 i hi
  refine Back.mono (back hZ hw wi E V C K1 hty S hz (by omega) (by omega) (fun i hi => by rw [hcv i (by omega)]; exact hall _ (List.getElem_mem _)) hfr hlo) (fun P a hp => ⟨hp.1, hp.2.1, hp.2.2.1, by rw [e]; exact hp.2.2.2⟩) (fun P a v B hp hq => ?_)
  obtain ⟨L, ⟨q1, q2, q3, q4, q5, q6, q7, ⟨V', v1, v2, v3, v4, v5⟩, q9⟩, hl, hc, hs⟩ := hq
  refine ⟨L, ⟨q1, q2, q3, q4, q5, q6, q7, ⟨V'.cls, v3, V', v1, rfl, by rw [v4, e, hlen], K4, fun i hi => ?_, fun i hi => ?_⟩, q9⟩, hl, hc, by rw [hs, e]⟩
  · have hi' : i < cs.length := by omega
    rw [v5 i (by omega), hcv i hi']; simp [List.getD_eq_getElem?_getD, hi']
  · have hi' : i < cs.length := by omega
    simp only [List.getD_eq_getElem?_getD, List.getElem?_map, List.getElem?_eq_getElem hi', Option.map_some, Option.getD_some]
    exact fits_lo8 _
end StrChars.Road
namespace StrChars.Road
open Jvm Sem ClassFile Op Lib Jvm.Stand Jvm.Free Jvm.Free.XT
/-- WHAT COMES BACK, in the writer's own shape -/
def QV (Z : State) (x : Addr) (N : Int32) (bs : List Int32) (h : Heap) (n0 : Nat) (v : Option Value) (h' : Heap) (L : List Loc) : Prop := v = none ∧ RoadKit.Fr n0 L ∧ RoadKit.Keep h h' [x] ∧ RoadKit.Exa Z h' x ST ∧ RoadKit.Fld Z h' x ST "coder" "B" (.int 0) ∧
  ∃ (t : Addr) (kb : ClassId), n0 ≤ t ∧ h.size ≤ t ∧ ¬ t = x ∧ RoadKit.Fld Z h' x ST "value" "[B" (.ref t) ∧ RoadKit.Arv Z h' t kb .byte N (bs.map Value.int) (.int 0)
/-- **new String(chars) AT A CALL, FOR THE WRITER**: a char[] of n known ints, each 0 to 255 -/
theorem backV {p : Program} {l : Launch} {e : Env} {R : Room} {s : State} {args : Array Value} {below : List Frame} {len W : Nat} {Z : State} {a0 : Array Value} {h : Heap} (hZ : Z.Warmed39 s.vm) (hw : ∀ d ∈ words, d.before a0 Z = true) {kI : Nat} (wi : (Jvm.Cond.instantiable ST kI).before a0 Z = true)
    {x b : Addr} {kC : ClassId} {cs bs : List Int32} {d v0 c0 : Value} {z N : Int32} {n n0 : Nat} (hx0 : n0 ≤ x) (hh0 : n0 ≤ h.size) (E : RoadKit.Exa Z h x ST) (V : RoadKit.Fld Z h x ST "value" "[B" v0) (C : RoadKit.Fld Z h x ST "coder" "B" c0) (K : RoadKit.Arv Z h b kC .char N (cs.map Value.int) d) (S : RoadKit.Sta Z h ST "COMPACT_STRINGS" "Z" (.int z)) (hz : ¬ z = 0)
    (hn : cs.length = n) (hN : N = Int32.ofNat n) (l0 : 0 < n) (l2 : n ≤ 4000) (hp : ∀ c ∈ cs, ¬ c < 0 ∧ ¬ (255 : Int32) < c) (hb : bs = cs.map (fun c => c.toInt8.toInt32)) (hfr : 4 ≤ R.frames) (hlo : W + 65 ≤ R.locals) :
    Back l R p e below s args (⟨"java/lang/String", "<init>", "([C)V"⟩ : MethodName) len W (fun P a => a = #[.ref x, .ref b] ∧ P.U.heap = h ∧ P.cells + 1 ≤ R.cells ∧ P.slots + n ≤ R.slots)
      (fun P _ v B => ∃ L, QV Z x N bs h n0 v B.U.heap L ∧ B.locs = P.locs ++ L ∧ B.cells = P.cells + 1 ∧ B.slots = P.slots + n) := by
  subst hn hN hb
  refine Back.mono (backArv hZ hw wi E V C K S hz (n32 (by omega)) l0 (by omega) (fun c hc => (hp c hc).2) hfr hlo) (fun P a hp => hp) (fun P a v B hp hq => ?_)
  obtain ⟨L, ⟨q1, q2, q3, q4, q5, q6, q7, ⟨kb, v1, v2⟩, q9⟩, hl, hc, hs⟩ := hq
  exact ⟨L, ⟨q1, fun y hy => by rw [q2 y hy]; exact hx0, q3, q5, q7, h.size, kb, hh0, Nat.le_refl _, Nat.ne_of_gt E.lt, q6, by rw [List.map_map]; exact v2⟩, hl, hc, hs⟩
end StrChars.Road
namespace StrChars
open Jvm Sem ClassFile Op Lib Jvm.Stand Jvm.Free.XT Jvm.Free.ALB Jvm.Free.JM Jvm.Free
open Jvm.Lib.Cold (StaticIs)
def hi8 (x : Int32) : Int32 := lo8 (x >>> ((8 : Int32) &&& 31))
/-- what StringUTF16.getChar makes of two bytes -/
def pairCh (u v : Int32) : Int32 := (((u &&& 255) <<< ((0 : Int32) &&& 31)) ||| ((v &&& 255) <<< ((8 : Int32) &&& 31))).toUInt32.toUInt16.toUInt32.toInt32
theorem shr0 (c : Int32) : c >>> ((0 : Int32) &&& 31) = c := by
  have e : ((0 : Int32) &&& 31) = 0 := by decide
  rw [e]
  apply Int32.toBitVec_inj.mp
  rw [Int32.toBitVec_shiftRight]
  have e1 : ((0 : Int32).toBitVec.smod 32) = 0#32 := by decide
  rw [e1, BitVec.sshiftRight_eq']
  exact BitVec.sshiftRight_zero
theorem lo8_and (x : Int32) : (lo8 x &&& 255).toBitVec.toNat = x.toBitVec.toNat % 256 := by
  have h : (lo8 x).toBitVec = (x.toBitVec.signExtend 8).signExtend 32 := by rw [lo8, Int8.toBitVec_toInt32, Int32.toBitVec_toInt8]
  rw [Int32.toBitVec_and, BitVec.toNat_and, h]
  have e : ((x.toBitVec.signExtend 8).signExtend 32).toNat % 256 = x.toBitVec.toNat % 256 := by
    rw [BitVec.toNat_signExtend]
    have hlt := x.toBitVec.isLt
    simp only [BitVec.toNat_setWidth, BitVec.toNat_signExtend]
    split <;> split <;> omega
  rw [← e]
  exact Nat.and_two_pow_sub_one_eq_mod _ 8
theorem pair_says {c : Int32} (h0 : ¬ c < 0) (h1 : ¬ 65535 < c) : pairCh (lo8 c) (hi8 c) = c := by
  rw [Int32.lt_iff_toInt_lt] at h0 h1
  have e0 : (0 : Int32).toInt = 0 := rfl
  have e1 : (65535 : Int32).toInt = 65535 := rfl
  have hc : c.toInt = c.toBitVec.toNat := by
    have := c.toBitVec.isLt
    have e : c.toInt = c.toBitVec.toInt := rfl
    rw [e] at h0 h1
    rw [e]
    rw [BitVec.toInt_eq_toNat_cond] at h0 h1 ⊢
    split at h0 <;> split <;> omega
  have hn : c.toBitVec.toNat < 65536 := by omega
  have a1 := lo8_and c
  have a2 : (hi8 c &&& 255).toBitVec.toNat = c.toBitVec.toNat / 256 := by
    rw [hi8, lo8_and]
    have e : ((8 : Int32) &&& 31) = 8 := by decide
    rw [e, Int32.toBitVec_shiftRight]
    have e2 : ((8 : Int32).toBitVec.smod 32) = 8#32 := by decide
    rw [e2, BitVec.sshiftRight_eq', BitVec.toNat_sshiftRight_of_msb_false (by rw [BitVec.msb_eq_false_iff_two_mul_lt]; omega)]
    show c.toBitVec.toNat >>> 8 % 256 = _
    rw [Nat.shiftRight_eq_div_pow]
    omega
  unfold pairCh
  apply Int32.toBitVec_inj.mp
  apply BitVec.eq_of_toNat_eq
  have f0 : ((0 : Int32) &&& 31) = 0 := by decide
  have f8 : ((8 : Int32) &&& 31) = 8 := by decide
  rw [f0, f8]
  have g : (((lo8 c &&& 255) <<< (0 : Int32)) ||| ((hi8 c &&& 255) <<< (8 : Int32))).toBitVec.toNat = c.toBitVec.toNat := by
    rw [Int32.toBitVec_or, Int32.toBitVec_shiftLeft, Int32.toBitVec_shiftLeft]
    have s0 : ((0 : Int32).toBitVec.smod 32) = 0#32 := by decide
    have s8 : ((8 : Int32).toBitVec.smod 32) = 8#32 := by decide
    rw [s0, s8, BitVec.toNat_or]
    simp only [BitVec.shiftLeft_eq', BitVec.toNat_shiftLeft, a1, a2]
    show (c.toBitVec.toNat % 256) <<< 0 % 2 ^ 32 ||| (c.toBitVec.toNat / 256) <<< 8 % 2 ^ 32 = _
    rw [Nat.shiftLeft_zero, Nat.mod_eq_of_lt (show c.toBitVec.toNat % 256 < 2 ^ 32 by omega), Nat.mod_eq_of_lt (show (c.toBitVec.toNat / 256) <<< 8 < 2 ^ 32 by rw [Nat.shiftLeft_eq]; omega), Nat.or_comm, ← Nat.shiftLeft_add_eq_or_of_lt (by omega), Nat.shiftLeft_eq]
    omega
  show BitVec.toNat (((((lo8 c &&& 255) <<< (0 : Int32)) ||| ((hi8 c &&& 255) <<< (8 : Int32))).toBitVec.setWidth 16).setWidth 32) = _
  rw [BitVec.toNat_setWidth, BitVec.toNat_setWidth, g]
  omega
end StrChars
namespace StrChars
open Jvm Sem ClassFile Op Lib Jvm.Stand Jvm.Free.XT Jvm.Free.ALB Jvm.Free.JM Jvm.Free
open Jvm.Lib.Cold (StaticIs)
theorem shr1 {n : Nat} (h : 2 * n < 2 ^ 31) : Int32.ofNat (2 * n) >>> ((1 : Int32) &&& 31) = Int32.ofNat n := by
  have e : ((1 : Int32) &&& 31) = 1 := by decide
  rw [e]
  apply Int32.toBitVec_inj.mp
  rw [Int32.toBitVec_shiftRight]
  have e1 : ((1 : Int32).toBitVec.smod 32) = 1#32 := by decide
  have hm : (BitVec.ofNat 32 (2 * n)).toNat = 2 * n := by rw [BitVec.toNat_ofNat, Nat.mod_eq_of_lt (by omega)]
  rw [e1, BitVec.sshiftRight_eq']
  apply BitVec.eq_of_toNat_eq
  show ((BitVec.ofNat 32 (2 * n)).sshiftRight 1).toNat = (BitVec.ofNat 32 n).toNat
  rw [BitVec.toNat_sshiftRight_of_msb_false (by rw [BitVec.msb_eq_false_iff_two_mul_lt, hm]; omega), hm, BitVec.toNat_ofNat, Nat.shiftRight_eq_div_pow]
  omega
/-- charAt's cast of a byte read back -/
def chr8 (u : Int32) : Int32 := (u &&& 255).toUInt32.toUInt16.toUInt32.toInt32
theorem chr8_lo8 {c : Int32} (h0 : ¬ c < 0) (h1 : ¬ 255 < c) : chr8 (lo8 c) = c := by
  have t : ∀ k : Fin 256, (Int32.ofNat k.val).toUInt32.toUInt16.toUInt32.toInt32 = Int32.ofNat k.val := by decide +kernel
  unfold chr8
  rw [lo8_mask h0 h1]
  rw [Int32.lt_iff_toInt_lt] at h0 h1
  have e0 : (0 : Int32).toInt = 0 := rfl
  have e1 : (255 : Int32).toInt = 255 := rfl
  obtain ⟨k, hk⟩ : ∃ k : Nat, c.toInt = k := ⟨c.toInt.toNat, by omega⟩
  have hx : c = Int32.ofNat k := Int32.toInt_inj.mp (by rw [hk, Int32.toInt_ofNat_small (by omega)])
  rw [hx]
  exact t ⟨k, by omega⟩
theorem narrow_ch {c : Int32} (h0 : ¬ c < 0) (h1 : ¬ 65535 < c) : narrow .char (.int c) = .int c := by
  have q : narrow .char (.int (pairCh (lo8 c) (hi8 c))) = .int (pairCh (lo8 c) (hi8 c)) := narrow_c _
  rwa [pair_says h0 h1] at q
/-- the array's cell V codes the n chars f 0 .. f (n - 1) by the coder cd, as the JDK does: coder 1 just where some char is above 255 -/
def Cod (cd : Int32) (n : Nat) (f : Nat → Int32) (V : Cell) : Prop := (cd = 0 ∧ V.slots.size = n ∧ ∀ j, j < n → V.slots[j]? = some (.int (lo8 (f j))) ∧ ¬ 255 < f j) ∨ (cd = 1 ∧ V.slots.size = 2 * n ∧ (∀ j, j < n → V.slots[2 * j]? = some (.int (lo8 (f j))) ∧ V.slots[2 * j + 1]? = some (.int (hi8 (f j)))) ∧ ∃ j, j < n ∧ 255 < f j)
theorem Cod.cd {cd : Int32} {n : Nat} {f : Nat → Int32} {V : Cell} (h : Cod cd n f V) : cd = 0 ∨ cd = 1 := h.imp (fun q => q.1) fun q => q.1
theorem Cod.len {cd : Int32} {n : Nat} {f : Nat → Int32} {V : Cell} (h : Cod cd n f V) (hs : V.slots.size < 2 ^ 31) : Int32.ofNat V.slots.size >>> (cd &&& 31) = Int32.ofNat n := by
  rcases h with ⟨rfl, h, -⟩ | ⟨rfl, h, -⟩
  · rw [shr0, h]
  · rw [h, shr1 (by omega)]
/-- **x is a String of the n chars f 0 .. f (n - 1)**, Latin-1 or UTF-16; its array at t has the cell V -/
def Txt (x t : Addr) (V : Cell) (cd : Int32) (n : Nat) (f : Nat → Int32) (U : State) : Prop := Exact "java/lang/String" x U ∧ Has x "java/lang/String" "value" "[B" (.ref t) U ∧ Has x "java/lang/String" "coder" "B" (.int cd) U ∧ XT.Arr .byte t V U ∧ Cod cd n f V ∧ ∀ j, j < n → ¬ f j < 0 ∧ ¬ 65535 < f j
theorem Txt.mv {x t : Addr} {V : Cell} {cd : Int32} {n : Nat} {f : Nat → Int32} {U U' : State} (h : Txt x t V cd n f U) (hal : U.vm.Alike U'.vm) (hh : U'.heap = U.heap) : Txt x t V cd n f U' := ⟨h.1.mv hal hh, h.2.1.mv hal hh, h.2.2.1.mv hal hh, h.2.2.2.1.mv hal hh, h.2.2.2.2⟩
namespace Cdr
def yN : MethodName := ⟨"java/lang/String", "coder", "()B"⟩
abbrev yB : ByteArray := jdk_42_method_152_code
theorem d0 : decode yB 0 = .ok (.getstatic 38, 3) := by decide +kernel
theorem d3 : decode yB 3 = .ok (.ifCond (.eq) 10, 3) := by decide +kernel
theorem d6 : decode yB 6 = .ok (.aload_n 0, 1) := by decide +kernel
theorem d7 : decode yB 7 = .ok (.getfield 15, 3) := by decide +kernel
theorem d10 : decode yB 10 = .ok (.goto 4, 3) := by decide +kernel
theorem d14 : decode yB 14 = .ok (.ireturn, 1) := by decide +kernel
def site : List Cond := [.fieldLink "java/lang/String" 38 "java/lang/String" "COMPACT_STRINGS" "Z", .fieldLink "java/lang/String" 15 "java/lang/String" "coder" "B"]
def tab : Cond := tabOf yN yB 1 (some .byte) site
def P (x : Addr) (cd z : Int32) (args : Array Value) (s : State) : Prop := args = #[.ref x] ∧ Has x "java/lang/String" "coder" "B" (.int cd) s ∧ (cd = 0 ∨ cd = 1) ∧ StaticIs s "java/lang/String" "COMPACT_STRINGS" "Z" (.int z) ∧ ¬ z = 0
def E (cd : Int32) (r : Option Value) (s u : State) : Prop := XT.PureE (some (.int cd)) r s u
theorem law (l : Launch) (x : Addr) (cd z : Int32) : Law l yN 1 0 0 0 yB 1 (some .byte) site (P x cd z) (E cd) [] 0 0 := by
  refine Law.of_walk (plainFor_of_name (by decide +kernel)) (by decide +kernel) (by decide +kernel) (by decide) (fun _ _ h => by rw [h.1]; rfl) (fun _ U U' hal hh h => ⟨h.1, h.2.1.mv hal hh, h.2.2.1, h.2.2.2.1.there hal hh, h.2.2.2.2⟩) (fun r U U' V V' h1 hal h2 h => XT.PureE.mv r U U' V V' h1 hal h2 h) ?_
  intro p e s m args below meth c s₁ X0 hexec hbytes hml hret hlk hnm hown hh0 W hP
  obtain ⟨rfl, hx, hc, s1, hz⟩ := hP
  have c1 : Steps p.tables e below (s₁.setTop (entryFrame m #[.ref x] 1)) (s₁.setTop (mkF m 0 #[.val (.ref x)] [])) := entry rfl
  obtain ⟨T2, X2, q2, st2⟩ := X0.sget hexec hown (wk W (.fieldLink "java/lang/String" 38 "java/lang/String" "COMPACT_STRINGS" "Z")) s1 (fun _ _ h => by rw [hh0]; exact h) (g := (mkF m 0 #[.val (.ref x)] [])) rfl (hb hbytes d0)
  have hh2 := q2.trans hh0
  have c3 : Steps p.tables e below (s₁.setTop (entryFrame m #[.ref x] 1)) (T2.setTop (mkF m 7 #[.val (.ref x)] [.ref x])) := (c1.trans (st2 _ (Steps.refl _))).trans (by
    refine XS.ifNo X2.here hexec rfl (hb hbytes d3) rfl (i0_eq_f hz) ?_
    refine XS.aloadN X2.here hexec rfl (hb hbytes d6) rfl rfl ?_
    exact Steps.refl _)
  obtain ⟨T4, X4, q4, st4⟩ := X2.hget hexec hown (wk W (.fieldLink "java/lang/String" 15 "java/lang/String" "coder" "B")) (hx.mv X2.warmed.alike hh2) (g := (mkF m 7 #[.val (.ref x)] [.ref x])) rfl (rest := []) rfl (hb hbytes d7)
  have c5 : Steps p.tables e below (s₁.setTop (entryFrame m #[.ref x] 1)) (T4.setTop (mkF m 14 #[.val (.ref x)] [.int cd])) := (c3.trans (st4 _ (Steps.refl _))).trans (by
    refine XS.goto X4.here hexec rfl (pc0 := 10) rfl (hb hbytes d10) (by decide) rfl ?_
    exact Steps.refl _)
  exact ⟨T4, some (.int cd), _, _, _, X4, rfl, rfl, rfl, (fun h => by cases h), ⟨rfl, q4.trans hh2⟩, fun fs hl => c5.trans (X4.ireturnOut hexec hret (by rcases hc with rfl | rfl <;> rfl) (Or.inr (Or.inr (Or.inl rfl))) (hb hbytes d14) hl)⟩
end Cdr
namespace Len
def yN : MethodName := ⟨"java/lang/String", "length", "()I"⟩
abbrev yB : ByteArray := jdk_42_method_54_code
theorem d0 : decode yB 0 = .ok (.aload_n 0, 1) := by decide +kernel
theorem d1 : decode yB 1 = .ok (.getfield 9, 3) := by decide +kernel
theorem d4 : decode yB 4 = .ok (.arraylength, 1) := by decide +kernel
theorem d5 : decode yB 5 = .ok (.aload_n 0, 1) := by decide +kernel
theorem d6 : decode yB 6 = .ok (.invokevirtual 335, 3) := by decide +kernel
theorem d9 : decode yB 9 = .ok (.ishr, 1) := by decide +kernel
theorem d10 : decode yB 10 = .ok (.ireturn, 1) := by decide +kernel
def site : List Cond := [.fieldLink "java/lang/String" 9 "java/lang/String" "value" "[B", Cdr.tab] ++ virtW "java/lang/String" 335 "java/lang/String" Cdr.yN Cdr.yN
def tab : Cond := tabOf yN yB 1 (some .int) site
def P (x t : Addr) (V : Cell) (cd : Int32) (n : Nat) (f : Nat → Int32) (z : Int32) (args : Array Value) (s : State) : Prop := args = #[.ref x] ∧ Txt x t V cd n f s ∧ StaticIs s "java/lang/String" "COMPACT_STRINGS" "Z" (.int z) ∧ ¬ z = 0
def E (n : Nat) (r : Option Value) (s u : State) : Prop := XT.PureE (some (.int (Int32.ofNat n))) r s u
/-- length() of a String of n chars, in either coding -/
theorem law (l : Launch) (x t : Addr) (V : Cell) (cd : Int32) (n : Nat) (f : Nat → Int32) (z : Int32) : Law l yN 1 0 1 13 yB 1 (some .int) site (P x t V cd n f z) (E n) [] 0 0 := by
  refine Law.of_walk (plainFor_of_name (by decide +kernel)) (by decide +kernel) (by decide +kernel) (by decide) (fun _ _ h => by rw [h.1]; rfl) (fun _ U U' hal hh h => ⟨h.1, h.2.1.mv hal hh, h.2.2.1.there hal hh, h.2.2.2⟩) (fun r U U' V V' h1 hal h2 h => XT.PureE.mv r U U' V V' h1 hal h2 h) ?_
  intro p e s m args below meth c s₁ X0 hexec hbytes hml hret hlk hnm hown hh0 W hP
  obtain ⟨rfl, hx, s1, hz⟩ := hP
  have v31 := hx.2.2.2.1.2.2.2
  have c1 : Steps p.tables e below (s₁.setTop (entryFrame m #[.ref x] 1)) (s₁.setTop (mkF m 1 #[.val (.ref x)] [.ref x])) := Steps.trans (entry rfl) (by
    show Steps p.tables e below (s₁.setTop (mkF m 0 #[.val (.ref x)] [])) _
    refine XS.aloadN X0.here hexec rfl (hb hbytes d0) rfl rfl ?_
    exact Steps.refl _)
  obtain ⟨T2, X2, q2, st2⟩ := X0.hget hexec hown (wk W (.fieldLink "java/lang/String" 9 "java/lang/String" "value" "[B")) (hx.mv X0.warmed.alike hh0).2.1 (g := (mkF m 1 #[.val (.ref x)] [.ref x])) rfl (rest := []) rfl (hb hbytes d1)
  have hh2 := q2.trans hh0
  have hx2 := hx.mv X2.warmed.alike hh2
  have c3 : Steps p.tables e below (s₁.setTop (entryFrame m #[.ref x] 1)) (T2.setTop (mkF m 6 #[.val (.ref x)] [.ref x, .int (Int32.ofNat V.slots.size)])) := (c1.trans (st2 _ (Steps.refl _))).trans (by
    refine X2.alen hexec hx2.2.2.2.1 rfl rfl (hb hbytes d4) ?_
    refine XS.aloadN X2.here hexec rfl (hb hbytes d5) rfl rfl ?_
    exact Steps.refl _)
  obtain ⟨v4, T4, X4, E4, g4⟩ := X2.callV hexec (Cdr.law l x cd z) hown (wks W (virtW "java/lang/String" 335 "java/lang/String" Cdr.yN Cdr.yN)) rfl (by decide) (wk W Cdr.tab) (W := 1) (Nat.le_of_ble_eq_true rfl) (Nat.le_of_ble_eq_true rfl) (Nat.le_refl _) (Nat.le_refl _) (hx2.1.fc X2.warmed.alike) hx2.1.is (g := (mkF m 6 #[.val (.ref x)] [.ref x, .int (Int32.ofNat V.slots.size)])) rfl (by rw [hml]; rfl) c3 (argsL := []) (rest := [.int (Int32.ofNat V.slots.size)]) rfl rfl (by show 2 * 0 + (1 + 0) ≤ _; decide) (hb hbytes d6) (⟨rfl, hx2.2.2.1, hx.2.2.2.2.1.cd, s1.there X2.warmed.alike hh2, hz⟩)
  obtain ⟨rfl, q4⟩ := E4
  have c5 : Steps p.tables e below (s₁.setTop (entryFrame m #[.ref x] 1)) (T4.setTop (mkF m 10 #[.val (.ref x)] [.int (Int32.ofNat V.slots.size >>> (cd &&& 31))])) := Steps.trans g4 (by
    refine ishr X4.here hexec rfl (hb hbytes d9) rfl ?_
    exact Steps.refl _)
  rw [hx.2.2.2.2.1.len v31] at c5
  exact ⟨T4, some (.int (Int32.ofNat n)), _, _, _, X4, rfl, rfl, rfl, (fun h => by cases h), ⟨rfl, q4.trans hh2⟩, fun fs hl => c5.trans (X4.ireturnOut hexec hret rfl (Or.inl rfl) (hb hbytes d10) hl)⟩
theorem pays {l : Launch} {R : Room} {p : Program} {e : Env} {below : List Frame} {s : State} {sargs : Array Value} {len W : Nat} (x t : Addr) (V : Cell) (cd : Int32) (n : Nat) (f : Nat → Int32) (z : Int32) (htab : tab.before sargs s = true) (hfr : 2 ≤ R.frames) (hlo : W + 25 ≤ R.locals) :
    Back l R p e below s sargs yN len W (fun A₁ a₁ => A₁.cells + 0 ≤ R.cells ∧ A₁.slots + 0 ≤ R.slots ∧ P x t V cd n f z a₁ A₁.U) (fun A₁ _ v₁ B₁ => E n v₁ A₁.U B₁.U ∧ B₁.locs = A₁.locs ++ [] ∧ B₁.cells = A₁.cells + 0 ∧ B₁.slots = A₁.slots + 0) :=
  (law l x t V cd n f z).pays htab hfr (by omega)
end Len
namespace IsL
def yN : MethodName := ⟨"java/lang/String", "isLatin1", "()Z"⟩
abbrev yB : ByteArray := jdk_42_method_154_code
theorem d0 : decode yB 0 = .ok (.getstatic 38, 3) := by decide +kernel
theorem d3 : decode yB 3 = .ok (.ifCond (.eq) 14, 3) := by decide +kernel
theorem d6 : decode yB 6 = .ok (.aload_n 0, 1) := by decide +kernel
theorem d7 : decode yB 7 = .ok (.getfield 15, 3) := by decide +kernel
theorem d10 : decode yB 10 = .ok (.ifCond (.ne) 7, 3) := by decide +kernel
theorem d13 : decode yB 13 = .ok (.iconst 1, 1) := by decide +kernel
theorem d14 : decode yB 14 = .ok (.goto 4, 3) := by decide +kernel
theorem d17 : decode yB 17 = .ok (.iconst 0, 1) := by decide +kernel
theorem d18 : decode yB 18 = .ok (.ireturn, 1) := by decide +kernel
def site : List Cond := [.fieldLink "java/lang/String" 38 "java/lang/String" "COMPACT_STRINGS" "Z", .fieldLink "java/lang/String" 15 "java/lang/String" "coder" "B"]
def tab : Cond := tabOf yN yB 1 (some .boolean) site
def P (x : Addr) (cd z : Int32) (args : Array Value) (s : State) : Prop := args = #[.ref x] ∧ Has x "java/lang/String" "coder" "B" (.int cd) s ∧ (cd = 0 ∨ cd = 1) ∧ StaticIs s "java/lang/String" "COMPACT_STRINGS" "Z" (.int z) ∧ ¬ z = 0
def E (cd : Int32) (r : Option Value) (s u : State) : Prop := XT.PureE (some (.int (1 - cd))) r s u
theorem law (l : Launch) (x : Addr) (cd z : Int32) : Law l yN 1 0 0 0 yB 1 (some .boolean) site (P x cd z) (E cd) [] 0 0 := by
  refine Law.of_walk (plainFor_of_name (by decide +kernel)) (by decide +kernel) (by decide +kernel) (by decide) (fun _ _ h => by rw [h.1]; rfl) (fun _ U U' hal hh h => ⟨h.1, h.2.1.mv hal hh, h.2.2.1, h.2.2.2.1.there hal hh, h.2.2.2.2⟩) (fun r U U' V V' h1 hal h2 h => XT.PureE.mv r U U' V V' h1 hal h2 h) ?_
  intro p e s m args below meth c s₁ X0 hexec hbytes hml hret hlk hnm hown hh0 W hP
  obtain ⟨rfl, hx, hc, s1, hz⟩ := hP
  have c1 : Steps p.tables e below (s₁.setTop (entryFrame m #[.ref x] 1)) (s₁.setTop (mkF m 0 #[.val (.ref x)] [])) := entry rfl
  obtain ⟨T2, X2, q2, st2⟩ := X0.sget hexec hown (wk W (.fieldLink "java/lang/String" 38 "java/lang/String" "COMPACT_STRINGS" "Z")) s1 (fun _ _ h => by rw [hh0]; exact h) (g := (mkF m 0 #[.val (.ref x)] [])) rfl (hb hbytes d0)
  have hh2 := q2.trans hh0
  have c3 : Steps p.tables e below (s₁.setTop (entryFrame m #[.ref x] 1)) (T2.setTop (mkF m 7 #[.val (.ref x)] [.ref x])) := (c1.trans (st2 _ (Steps.refl _))).trans (by
    refine XS.ifNo X2.here hexec rfl (hb hbytes d3) rfl (i0_eq_f hz) ?_
    refine XS.aloadN X2.here hexec rfl (hb hbytes d6) rfl rfl ?_
    exact Steps.refl _)
  obtain ⟨T4, X4, q4, st4⟩ := X2.hget hexec hown (wk W (.fieldLink "java/lang/String" 15 "java/lang/String" "coder" "B")) (hx.mv X2.warmed.alike hh2) (g := (mkF m 7 #[.val (.ref x)] [.ref x])) rfl (rest := []) rfl (hb hbytes d7)
  have c5 : Steps p.tables e below (s₁.setTop (entryFrame m #[.ref x] 1)) (T4.setTop (mkF m 10 #[.val (.ref x)] [.int cd])) := c3.trans (st4 _ (Steps.refl _))
  have c6 : Steps p.tables e below (s₁.setTop (entryFrame m #[.ref x] 1)) (T4.setTop (mkF m 18 #[.val (.ref x)] [.int (1 - cd)])) := by
    rcases hc with rfl | rfl
    · exact c5.trans (by
        refine XS.ifNo X4.here hexec rfl (hb hbytes d10) rfl (i0_ne_f rfl) ?_
        refine iconstV X4.here hexec rfl 1 (hb hbytes d13) (by decide) ?_
        refine XS.goto X4.here hexec rfl (pc0 := 14) rfl (hb hbytes d14) (by decide) rfl ?_
        exact Steps.refl _)
    · exact c5.trans (by
        refine XS.ifYes X4.here hexec rfl (pc0 := 10) rfl (hb hbytes d10) rfl (i0_ne_t (by decide)) (by decide) rfl ?_
        refine iconstV X4.here hexec rfl 0 (hb hbytes d17) (by decide) ?_
        exact Steps.refl _)
  exact ⟨T4, some (.int (1 - cd)), _, _, _, X4, rfl, rfl, rfl, (fun h => by cases h), ⟨rfl, q4.trans hh2⟩, fun fs hl => c6.trans (X4.ireturnOut hexec hret (by rcases hc with rfl | rfl <;> rfl) (Or.inr (Or.inl rfl)) (hb hbytes d18) hl)⟩
end IsL
namespace LChA
def yN : MethodName := ⟨"java/lang/StringLatin1", "charAt", "([BI)C"⟩
abbrev yB : ByteArray := jdk_43_method_2_code
theorem d0 : decode yB 0 = .ok (.iload_n 1, 1) := by decide +kernel
theorem d1 : decode yB 1 = .ok (.aload_n 0, 1) := by decide +kernel
theorem d2 : decode yB 2 = .ok (.arraylength, 1) := by decide +kernel
theorem d3 : decode yB 3 = .ok (.invokestatic 9, 3) := by decide +kernel
theorem d6 : decode yB 6 = .ok (.aload_n 0, 1) := by decide +kernel
theorem d7 : decode yB 7 = .ok (.iload_n 1, 1) := by decide +kernel
theorem d8 : decode yB 8 = .ok (.baload, 1) := by decide +kernel
theorem d9 : decode yB 9 = .ok (.sipush 255, 3) := by decide +kernel
theorem d12 : decode yB 12 = .ok (.iand, 1) := by decide +kernel
theorem d13 : decode yB 13 = .ok (.i2c, 1) := by decide +kernel
theorem d14 : decode yB 14 = .ok (.ireturn, 1) := by decide +kernel
def site : List Cond := [JO.Str_checkIndex.tab] ++ staticW "java/lang/StringLatin1" 9 JO.Str_checkIndex.yN
def tab : Cond := tabOf yN yB 2 (some .char) site
def P (t : Addr) (V : Cell) (i : Nat) (u : Int32) (fm : Value) (args : Array Value) (s : State) : Prop := args = #[.ref t, .int (Int32.ofNat i)] ∧ XT.Arr .byte t V s ∧ V.slots[i]? = some (.int u) ∧ (StaticIs s "jdk/internal/util/Preconditions" "SIOOBE_FORMATTER" "Ljava/util/function/BiFunction;" fm ∧ fm.isRef = true)
def E (u : Int32) (r : Option Value) (s w : State) : Prop := XT.PureE (some (.int (chr8 u))) r s w
theorem law (l : Launch) (t : Addr) (V : Cell) (i : Nat) (u : Int32) (fm : Value) : Law l yN 2 2 2 27 yB 2 (some .char) site (P t V i u fm) (E u) [] 0 0 := by
  refine Law.of_walk (plainFor_of_name (by decide +kernel)) (by decide +kernel) (by decide +kernel) (by decide) (fun _ _ h => by rw [h.1]; rfl) (fun _ U U' hal hh h => ⟨h.1, h.2.1.mv hal hh, h.2.2.1, h.2.2.2.1.there hal hh, h.2.2.2.2⟩) (fun r U U' V V' h1 hal h2 h => XT.PureE.mv r U U' V V' h1 hal h2 h) ?_
  intro p e s m args below meth c s₁ X0 hexec hbytes hml hret hlk hnm hown hh0 W hP
  obtain ⟨rfl, hV, hu, s1, rf⟩ := hP
  have v31 := hV.2.2.2
  have hi : i < V.slots.size := (Array.getElem?_eq_some_iff.mp hu).1
  have c1 : Steps p.tables e below (s₁.setTop (entryFrame m #[.ref t, .int (Int32.ofNat i)] 2)) (s₁.setTop (mkF m 0 #[.val (.ref t), .val (.int (Int32.ofNat i))] [])) := entry rfl
  have c2 : Steps p.tables e below (s₁.setTop (entryFrame m #[.ref t, .int (Int32.ofNat i)] 2)) (s₁.setTop (mkF m 3 #[.val (.ref t), .val (.int (Int32.ofNat i))] [.int (Int32.ofNat V.slots.size), .int (Int32.ofNat i)])) := c1.trans (by
    refine XS.iloadN X0.here hexec rfl (hb hbytes d0) rfl ?_
    refine XS.aloadN X0.here hexec rfl (hb hbytes d1) rfl rfl ?_
    refine X0.alen hexec (hV.mv X0.warmed.alike hh0) rfl rfl (hb hbytes d2) ?_
    exact Steps.refl _)
  obtain ⟨v3, T3, X3, E3, g3⟩ := X0.callS hexec (JO.Str_checkIndex.law l (Int32.ofNat i) (Int32.ofNat V.slots.size) fm) hown (wks W (staticW "java/lang/StringLatin1" 9 JO.Str_checkIndex.yN)) (wk W JO.Str_checkIndex.tab) (W := 0) (Nat.le_of_ble_eq_true rfl) (Nat.le_of_ble_eq_true rfl) (Nat.le_refl _) (Nat.le_refl _) (g := (mkF m 3 #[.val (.ref t), .val (.int (Int32.ofNat i))] [.int (Int32.ofNat V.slots.size), .int (Int32.ofNat i)])) rfl (by rw [hml]; rfl) c2 (argsL := [.int (Int32.ofNat i), .int (Int32.ofNat V.slots.size)]) (rest := []) rfl rfl (by show 2 * 0 + 0 ≤ _; decide) (hb hbytes d3) (⟨rfl, rf, s1.there X0.warmed.alike hh0, Int32.ofNat_not_neg (by omega), lt32 v31 hi⟩)
  obtain ⟨rfl, q3⟩ := E3
  have hh3 := q3.trans hh0
  have c4 : Steps p.tables e below (s₁.setTop (entryFrame m #[.ref t, .int (Int32.ofNat i)] 2)) (T3.setTop (mkF m 14 #[.val (.ref t), .val (.int (Int32.ofNat i))] [.int (chr8 u)])) := Steps.trans g3 (by
    refine XS.aloadN X3.here hexec rfl (hb hbytes d6) rfl rfl ?_
    refine XS.iloadN X3.here hexec rfl (hb hbytes d7) rfl ?_
    refine X3.aget hexec (hV.mv X3.warmed.alike hh3) rfl hu rfl rfl (hb hbytes d8) ?_
    refine sipushV X3.here hexec rfl 255 (hb hbytes d9) (by decide) ?_
    refine XS.iand X3.here hexec rfl (hb hbytes d12) rfl ?_
    refine i2c X3.here hexec rfl (hb hbytes d13) rfl ?_
    exact Steps.refl _)
  exact ⟨T3, some (.int (chr8 u)), _, _, _, X3, rfl, rfl, rfl, (fun h => by cases h), ⟨rfl, hh3⟩, fun fs hl => c4.trans (X3.ireturnOut hexec hret (narrow_c _) (Or.inr (Or.inr (Or.inr (Or.inl rfl)))) (hb hbytes d14) hl)⟩
end LChA
end StrChars
namespace StrChars.Road
open Jvm Sem ClassFile Op Lib Jvm.Stand Jvm.Free Jvm.Free.XT
open Jvm.Lib.Cold (StaticIs)
theorem consq {a : Array Value} {s : State} {c : Jvm.Cond} {L : List Jvm.Cond} (h0 : c.before a s = true) (h : ∀ w ∈ L, w.before a s = true) : ∀ w ∈ c :: L, w.before a s = true := fun w hw => (List.mem_cons.mp hw).elim (fun e => e ▸ h0) (h w)
/-- the words of String.length(), either coding -/
abbrev wordsLen : List Jvm.Cond := [.code Len.yN Len.yB 1 (some .int), .initialized ST, .fieldLink ST 9 ST "value" "[B", .fieldLink ST 38 ST "COMPACT_STRINGS" "Z", .fieldLink ST 15 ST "coder" "B", .code Cdr.yN Cdr.yB 1 (some .byte), .methodLink ST 335 Cdr.yN, .declares Cdr.yN, .selects ST Cdr.yN Cdr.yN, .instanceMethod Cdr.yN]
theorem tabLen_of {a : Array Value} {s : State} (h : ∀ w ∈ wordsLen, w.before a s = true) : Len.tab.before a s = true := by
  have hc : Cdr.tab.before a s = true := unparts (wk h (.code Cdr.yN Cdr.yB 1 (some .byte))) (wks h (.initialized Cdr.yN.cls :: Cdr.site))
  have q := consq hc h
  exact unparts (wk q (.code Len.yN Len.yB 1 (some .int))) (wks q (.initialized Len.yN.cls :: Len.site))
theorem movedLen {Z s : State} {a0 args : Array Value} (hZ : Z.Warmed39 s.vm) (hw : ∀ d ∈ wordsLen, d.before a0 Z = true) : ∀ d ∈ wordsLen, d.before args s = true := fun d hd => by
  have q := hw d hd
  have t : ∀ d ∈ wordsLen, d = .arrayClass .byte ∨ (d.onTables && d.keepsFace) = true := by decide +kernel
  rcases t d hd with rfl | t
  · exact RoadKit.mvA hZ q
  · exact RoadKit.mv hZ q t
/-- the bytes of the chars cs, low before high -/
def wideBytes : List Int32 → List Value
  | [] => []
  | c :: cs => .int (lo8 c) :: .int (hi8 c) :: wideBytes cs
theorem wide_lo (d : Value) : ∀ (cs : List Int32) (j : Nat), j < cs.length → (wideBytes cs).getD (2 * j) d = .int (lo8 (cs.getD j 0))
  | [], j, h => absurd h (Nat.not_lt_zero j)
  | c :: cs, 0, _ => rfl
  | c :: cs, j + 1, h => by
    have q := wide_lo d cs j (by simpa using h)
    rw [show 2 * (j + 1) = 2 * j + 1 + 1 from by omega]
    simpa [wideBytes] using q
theorem wide_hi (d : Value) : ∀ (cs : List Int32) (j : Nat), j < cs.length → (wideBytes cs).getD (2 * j + 1) d = .int (hi8 (cs.getD j 0))
  | [], j, h => absurd h (Nat.not_lt_zero j)
  | c :: cs, 0, _ => rfl
  | c :: cs, j + 1, h => by
    have q := wide_hi d cs j (by simpa using h)
    rw [show 2 * (j + 1) + 1 = 2 * j + 1 + 1 + 1 from by omega]
    simpa [wideBytes] using q
theorem low_at (d : Value) (cs : List Int32) (j : Nat) (h : j < cs.length) : (cs.map fun c => Value.int (lo8 c)).getD j d = .int (lo8 (cs.getD j 0)) := by
  simp [List.getD_eq_getElem?_getD, h]
/-- an array of N2 bytes vs codes the chars cs by the coder cd -/
def CodA (cs : List Int32) (cd N2 : Int32) (vs : List Value) : Prop := (cd = 0 ∧ N2 = Int32.ofNat cs.length ∧ vs = (cs.map fun c => Value.int (lo8 c)) ∧ ∀ c ∈ cs, ¬ 255 < c) ∨ (cd = 1 ∧ N2 = Int32.ofNat (2 * cs.length) ∧ vs = wideBytes cs ∧ ∃ c ∈ cs, 255 < c)
theorem CodA.cod {cs : List Int32} {cd N2 : Int32} {vs : List Value} {V : Cell} (h : CodA cs cd N2 vs) (hn : 2 * cs.length < 2 ^ 31) (hs : V.slots.size = N2.toNatClampNeg) (hv : RoadKit.Has V vs (.int 0)) : Cod cd cs.length (fun j => cs.getD j 0) V := by
  rcases h with ⟨rfl, rfl, rfl, h⟩ | ⟨rfl, rfl, rfl, c, hc, hw⟩
  · rw [n32 (by omega)] at hs
    exact Or.inl ⟨rfl, hs, fun j hj => ⟨by rw [hv j (by omega), low_at _ _ _ hj], by
      have e : cs.getD j 0 = cs[j] := by simp [List.getD_eq_getElem?_getD, hj]
      show ¬ 255 < cs.getD j 0
      rw [e]; exact h _ (List.getElem_mem _)⟩⟩
  · rw [n32 (by omega)] at hs
    obtain ⟨j, hj, rfl⟩ := List.getElem_of_mem hc
    exact Or.inr ⟨rfl, hs, fun j hj => ⟨by rw [hv _ (by omega), wide_lo _ _ _ hj], by rw [hv _ (by omega), wide_hi _ _ _ hj]⟩, j, hj, by
      have e : cs.getD j 0 = cs[j] := by simp [List.getD_eq_getElem?_getD, hj]
      show 255 < cs.getD j 0
      rw [e]; exact hw⟩
/-- an object of exactly java/lang/String, its two fields found: as the laws ask it -/
theorem strObj {Z U : State} {a0 : Array Value} {kI : Nat} (wi : (Jvm.Cond.instantiable ST kI).before a0 Z = true) (al : Z.vm.Alike U.vm) {x : Addr} {v0 c0 : Value} (E : RoadKit.Exa Z U.heap x ST) (V : RoadKit.Fld Z U.heap x ST "value" "[B" v0) (C : RoadKit.Fld Z U.heap x ST "coder" "B" c0) :
    ∃ (D : Cell) (fV fC : Field), Blank ST x D U ∧ Found ST "value" "[B" fV U ∧ Found ST "coder" "B" fC U ∧ D.slots[fV.slot]? = some v0 ∧ D.slots[fC.slot]? = some c0 ∧ RoadKit.slotOf Z ST "value" "[B" = fV.slot ∧ RoadKit.slotOf Z ST "coder" "B" = fC.slot := by
  obtain ⟨D, cfV, kV, iV, fV, hD, gV, stV, knV, obV, asV, slV⟩ := V
  obtain ⟨D', cfC, kC, iC, fC, hD', gC, stC, -, -, asC, slC⟩ := C
  cases hD.symm.trans hD'
  obtain ⟨D2, kD, e1, e2, e3, e4, e5⟩ := E
  cases hD.symm.trans e1
  obtain ⟨c2, k2, i1, i2, i3, -⟩ := Cond.instantiable_spec wi
  cases e2.symm.trans i1
  cases e3.symm.trans i2
  obtain ⟨kU, u1, u2⟩ := al.2.2 _ _ e3
  exact ⟨D, fV, fC, ⟨hD, ⟨knV, fun q hq => by rw [hq] at obV; cases obV⟩, by rw [al.findClass]; exact e2, kU, u1, by rw [u2]; exact i3, by rw [u2]; exact e5 i3⟩, ⟨SBG.found_only al ⟨cfV, kV, iV, gV⟩, stV⟩, ⟨SBG.found_only al ⟨cfC, kC, iC, gC⟩, stC⟩, slV, slC, by simp [RoadKit.slotOf, gV], by simp [RoadKit.slotOf, gC]⟩
theorem sta_is {Z U : State} (al : Z.vm.Alike U.vm) {C n d : String} {v : Value} (S : RoadKit.Sta Z U.heap C n d v) : StaticIs U C n d v := by
  obtain ⟨cfS, iS, kS, fS, st, cS, t1, t2, t3, t4, t5, t6, t7⟩ := S
  exact StaticIs.there (s := { Z with heap := U.heap }) ⟨cfS, iS, kS, fS, st, cS, t1, t2, t3, t4, t5, (fun q => by rw [q] at t6; cases t6), t7⟩ al rfl
/-- **length() OF SUCH A STRING** -/
theorem lenW {p : Program} {l : Launch} {e : Env} {R : Room} {s : State} {args : Array Value} {below : List Frame} {len W : Nat} {Z : State} {a0 : Array Value} {h : Heap} (hZ : Z.Warmed39 s.vm) (hw : ∀ d ∈ wordsLen, d.before a0 Z = true) {kI : Nat} (wi : (Jvm.Cond.instantiable ST kI).before a0 Z = true)
    {x t : Addr} {kb : ClassId} {cs : List Int32} {cd N2 z : Int32} {vs : List Value} (E : RoadKit.Exa Z h x ST) (V : RoadKit.Fld Z h x ST "value" "[B" (.ref t)) (C : RoadKit.Fld Z h x ST "coder" "B" (.int cd)) (K : RoadKit.Arv Z h t kb .byte N2 vs (.int 0)) (hc : CodA cs cd N2 vs) (hb : ∀ c ∈ cs, ¬ c < 0 ∧ ¬ (65535 : Int32) < c)
    (S : RoadKit.Sta Z h ST "COMPACT_STRINGS" "Z" (.int z)) (hz : ¬ z = 0) (l2 : cs.length ≤ 4000) (hfr : 2 ≤ R.frames) (hlo : W + 25 ≤ R.locals) :
    Back l R p e below s args (⟨"java/lang/String", "length", "()I"⟩ : MethodName) len W (fun P a => a = #[.ref x] ∧ P.U.heap = h ∧ P.cells + 0 ≤ R.cells ∧ P.slots + 0 ≤ R.slots)
      (fun P _ v B => ∃ L, (v = some (.int (Int32.ofNat cs.length)) ∧ L = [] ∧ B.U.heap = h) ∧ B.locs = P.locs ++ L ∧ B.cells = P.cells + 0 ∧ B.slots = P.slots + 0) := by
  obtain ⟨A, K1, K2, K3, K4, K5, K6⟩ := K
  have hcod := hc.cod (by omega) K3 K5
  intro m meth c P g ig mk a X hg hsize hdg hW hn hp'
  obtain ⟨rfl, rfl, r1, r2⟩ := hp'
  have al : Z.vm.Alike P.U.vm := hZ.alike.trans X.warmed.alike
  obtain ⟨D, fV, fC, hB, F1, F2, g1, g2, -, -⟩ := strObj wi al E V C
  have hx : Txt x t A cd cs.length (fun j => cs.getD j 0) P.U := ⟨⟨_, hB.2.2.1, D, hB.1, rfl, by cases q : D.vm <;> first | rfl | exact absurd q (hB.2.1.2 _)⟩, Has.of hB F1 g1, Has.of hB F2 g2, ⟨K1.1, State.isArrayOf_alike al K1.2.1, K1.2.2, by rcases hcod with ⟨-, q, -⟩ | ⟨-, q, -⟩ <;> omega⟩, hcod, fun j hj => by
    have e : cs.getD j 0 = cs[j] := by simp [List.getD_eq_getElem?_getD, hj]
    show ¬ cs.getD j 0 < 0 ∧ ¬ 65535 < cs.getD j 0
    rw [e]; exact hb _ (List.getElem_mem _)⟩
  obtain ⟨v, B, X', ⟨⟨hv, hh⟩, hl, hk, hs⟩, st⟩ := Len.pays x t A cd cs.length (fun j => cs.getD j 0) z (tabLen_of (movedLen hZ hw)) hfr hlo m meth c P g ig mk _ X hg hsize hdg hW hn ⟨r1, r2, rfl, hx, sta_is al S, hz⟩
  exact ⟨v, B, X', ⟨[], ⟨hv, rfl, hh⟩, hl, hk, hs⟩, st⟩
end StrChars.Road
namespace StrChars
open Jvm Sem ClassFile Op Lib Jvm.Stand Jvm.Free.XT Jvm.Free.ALB Jvm.Free.JM Jvm.Free
open Jvm.Lib.Cold (StaticIs)
/-- what place i of a byte[]'s cell holds -/
def yv (A : Cell) (i : Nat) : Int32 := match A.slots[i]? with | some (.int x) => x | _ => 0
theorem yv_get {a : Addr} {A : Cell} {U : State} (h : XT.Arr .byte a A U) (ht : Typed .byte A) {i : Nat} (hi : i < A.slots.size) : A.slots[i]? = some (.int (yv A i)) := by
  have e := Array.getElem?_eq_getElem hi
  have f := ht i _ e
  unfold yv; rw [e]
  generalize A.slots[i] = v at f
  cases v <;> simp [fits] at f ⊢
/-- the two arrays are equal, place for place -/
def EqC (A B : Cell) : Prop := A.slots.size = B.slots.size ∧ ∀ i, i < A.slots.size → yv A i = yv B i
/-- a boolean that says whether p -/
def Says01 (q : Prop) (r : Option Value) (s u : State) : Prop := ∃ v : Int32, r = some (.int v) ∧ u.heap = s.heap ∧ ((v = 1 ∧ q) ∨ (v = 0 ∧ ¬ q))
theorem Says01.mv {q : Prop} : ∀ r (U U' V V' : State), U'.heap = U.heap → V.vm.Alike V'.vm → V'.heap = V.heap → Says01 q r U V → Says01 q r U' V' :=
  fun r U U' V V' h1 _ h2 ⟨v, a, b, c⟩ => ⟨v, a, by rw [h1, h2]; exact b, c⟩
namespace LEq
def yN : MethodName := ⟨"java/lang/StringLatin1", "equals", "([B[B)Z"⟩
abbrev yB : ByteArray := jdk_43_method_13_code
theorem d0 : decode yB 0 = .ok (.aload_n 0, 1) := by decide +kernel
theorem d1 : decode yB 1 = .ok (.arraylength, 1) := by decide +kernel
theorem d2 : decode yB 2 = .ok (.aload_n 1, 1) := by decide +kernel
theorem d3 : decode yB 3 = .ok (.arraylength, 1) := by decide +kernel
theorem d4 : decode yB 4 = .ok (.if_icmp (.ne) 30, 3) := by decide +kernel
theorem d7 : decode yB 7 = .ok (.iconst 0, 1) := by decide +kernel
theorem d8 : decode yB 8 = .ok (.istore_n 2, 1) := by decide +kernel
theorem d9 : decode yB 9 = .ok (.iload_n 2, 1) := by decide +kernel
theorem d10 : decode yB 10 = .ok (.aload_n 0, 1) := by decide +kernel
theorem d11 : decode yB 11 = .ok (.arraylength, 1) := by decide +kernel
theorem d12 : decode yB 12 = .ok (.if_icmp (.ge) 20, 3) := by decide +kernel
theorem d15 : decode yB 15 = .ok (.aload_n 0, 1) := by decide +kernel
theorem d16 : decode yB 16 = .ok (.iload_n 2, 1) := by decide +kernel
theorem d17 : decode yB 17 = .ok (.baload, 1) := by decide +kernel
theorem d18 : decode yB 18 = .ok (.aload_n 1, 1) := by decide +kernel
theorem d19 : decode yB 19 = .ok (.iload_n 2, 1) := by decide +kernel
theorem d20 : decode yB 20 = .ok (.baload, 1) := by decide +kernel
theorem d21 : decode yB 21 = .ok (.if_icmp (.eq) 5, 3) := by decide +kernel
theorem d24 : decode yB 24 = .ok (.iconst 0, 1) := by decide +kernel
theorem d25 : decode yB 25 = .ok (.ireturn, 1) := by decide +kernel
theorem d26 : decode yB 26 = .ok (.iinc 2 1, 3) := by decide +kernel
theorem d29 : decode yB 29 = .ok (.goto (-20), 3) := by decide +kernel
theorem d32 : decode yB 32 = .ok (.iconst 1, 1) := by decide +kernel
theorem d33 : decode yB 33 = .ok (.ireturn, 1) := by decide +kernel
theorem d34 : decode yB 34 = .ok (.iconst 0, 1) := by decide +kernel
theorem d35 : decode yB 35 = .ok (.ireturn, 1) := by decide +kernel
def site : List Cond := []
def tab : Cond := tabOf yN yB 3 (some .boolean) site
def P (a : Addr) (A : Cell) (b : Addr) (B : Cell) (args : Array Value) (s : State) : Prop := args = #[.ref a, .ref b] ∧ XT.Arr .byte a A s ∧ Typed .byte A ∧ XT.Arr .byte b B s ∧ Typed .byte B
/-- whether two byte[] are equal, place for place -/
theorem law (l : Launch) (a : Addr) (A : Cell) (b : Addr) (B : Cell) : Law l yN 2 2 0 0 yB 3 (some .boolean) site (P a A b B) (Says01 (EqC A B)) [] 0 0 := by
  refine Law.of_walk (plainFor_of_name (by decide +kernel)) (by decide +kernel) (by decide +kernel) (by decide) (fun _ _ h => by rw [h.1]; rfl) (fun _ U U' hal hh h => ⟨h.1, h.2.1.mv hal hh, h.2.2.1, h.2.2.2.1.mv hal hh, h.2.2.2.2⟩) (fun r U U' V V' h1 hal h2 h => Says01.mv r U U' V V' h1 hal h2 h) ?_
  intro p e s m args below meth c s₁ X0 hexec hbytes hml hret hlk hnm hown hh0 W hP
  obtain ⟨rfl, hA, tA, hB, tB⟩ := hP
  have a31 := hA.2.2.2
  have b31 := hB.2.2.2
  have hA0 := hA.mv X0.warmed.alike hh0
  have hB0 := hB.mv X0.warmed.alike hh0
  have c1 : Steps p.tables e below (s₁.setTop (entryFrame m #[.ref a, .ref b] 3)) (s₁.setTop (mkF m 0 #[.val (.ref a), .val (.ref b), .unset] [])) := entry rfl
  have c2 : Steps p.tables e below (s₁.setTop (entryFrame m #[.ref a, .ref b] 3)) (s₁.setTop (mkF m 4 #[.val (.ref a), .val (.ref b), .unset] [.int (Int32.ofNat B.slots.size), .int (Int32.ofNat A.slots.size)])) := c1.trans (by
    refine XS.aloadN X0.here hexec rfl (hb hbytes d0) rfl rfl ?_
    refine X0.alen hexec hA0 rfl rfl (hb hbytes d1) ?_
    refine XS.aloadN X0.here hexec rfl (hb hbytes d2) rfl rfl ?_
    refine X0.alen hexec hB0 rfl rfl (hb hbytes d3) ?_
    exact Steps.refl _)
  by_cases hs : A.slots.size = B.slots.size
  · have c3 : Steps p.tables e below (s₁.setTop (entryFrame m #[.ref a, .ref b] 3)) (s₁.setTop (mkF m 9 #[.val (.ref a), .val (.ref b), .val (.int 0)] [])) := c2.trans (by
      refine XS.icmpNo X0.here hexec rfl (hb hbytes d4) rfl (ii_ne_f (by rw [hs])) ?_
      refine iconstV X0.here hexec rfl 0 (hb hbytes d7) (by decide) ?_
      refine XS.istoreN X0.here hexec rfl (hb hbytes d8) rfl rfl ?_
      exact Steps.refl _)
    have loop : ∀ (r i : Nat), i + r = A.slots.size → (∀ j, j < i → yv A j = yv B j) → Steps p.tables e below (s₁.setTop (entryFrame m #[.ref a, .ref b] 3)) (s₁.setTop (mkF m 9 #[.val (.ref a), .val (.ref b), .val (.int (Int32.ofNat i))] [])) → ∃ (pc : Nat) (Ls : Array Slot) (v : Int32), (pc = 25 ∨ pc = 33) ∧ ((v = 1 ∧ EqC A B) ∨ (v = 0 ∧ ¬ EqC A B)) ∧ Steps p.tables e below (s₁.setTop (entryFrame m #[.ref a, .ref b] 3)) (s₁.setTop (mkF m pc Ls [.int v])) := by
      intro r
      induction r with
      | zero =>
        intro i hi he cl
        exact ⟨33, _, 1, Or.inr rfl, Or.inl ⟨rfl, hs, fun j hj => he j (by omega)⟩, cl.trans (by
          refine XS.iloadN X0.here hexec rfl (hb hbytes d9) rfl ?_
          refine XS.aloadN X0.here hexec rfl (hb hbytes d10) rfl rfl ?_
          refine X0.alen hexec hA0 rfl rfl (hb hbytes d11) ?_
          refine XS.icmpYes X0.here hexec rfl (pc0 := 12) rfl (hb hbytes d12) rfl (ii_ge_t (nlt32 (by omega) (by omega))) (by decide) rfl ?_
          refine iconstV X0.here hexec rfl 1 (hb hbytes d32) (by decide) ?_
          exact Steps.refl _)⟩
      | succ r ih =>
        intro i hi he cl
        have c4 : Steps p.tables e below (s₁.setTop (entryFrame m #[.ref a, .ref b] 3)) (s₁.setTop (mkF m 21 #[.val (.ref a), .val (.ref b), .val (.int (Int32.ofNat i))] [.int (yv B i), .int (yv A i)])) := cl.trans (by
          refine XS.iloadN X0.here hexec rfl (hb hbytes d9) rfl ?_
          refine XS.aloadN X0.here hexec rfl (hb hbytes d10) rfl rfl ?_
          refine X0.alen hexec hA0 rfl rfl (hb hbytes d11) ?_
          refine XS.icmpNo X0.here hexec rfl (hb hbytes d12) rfl (ii_ge_f (lt32 (by omega) (by omega))) ?_
          refine XS.aloadN X0.here hexec rfl (hb hbytes d15) rfl rfl ?_
          refine XS.iloadN X0.here hexec rfl (hb hbytes d16) rfl ?_
          refine X0.aget hexec hA0 rfl (yv_get hA tA (i := i) (by omega)) rfl rfl (hb hbytes d17) ?_
          refine XS.aloadN X0.here hexec rfl (hb hbytes d18) rfl rfl ?_
          refine XS.iloadN X0.here hexec rfl (hb hbytes d19) rfl ?_
          refine X0.aget hexec hB0 rfl (yv_get hB tB (i := i) (by omega)) rfl rfl (hb hbytes d20) ?_
          exact Steps.refl _)
        by_cases hv : yv A i = yv B i
        · have c5 : Steps p.tables e below (s₁.setTop (entryFrame m #[.ref a, .ref b] 3)) (s₁.setTop (mkF m 9 #[.val (.ref a), .val (.ref b), .val (.int (Int32.ofNat i + 1))] [])) := c4.trans (by
            refine XS.icmpYes X0.here hexec rfl (pc0 := 21) rfl (hb hbytes d21) rfl (ii_eq_t hv) (by decide) rfl ?_
            refine iincV X0.here hexec rfl 1 (hb hbytes d26) (by decide) rfl rfl ?_
            refine XS.goto X0.here hexec rfl (pc0 := 29) rfl (hb hbytes d29) (by decide) rfl ?_
            exact Steps.refl _)
          rw [succ32] at c5
          exact ih (i + 1) (by omega) (fun j hj => by
            by_cases e : j = i
            · rw [e]; exact hv
            · exact he j (by omega)) c5
        · exact ⟨25, _, 0, Or.inl rfl, Or.inr ⟨rfl, fun q => hv (q.2 i (by omega))⟩, c4.trans (by
            refine XS.icmpNo X0.here hexec rfl (hb hbytes d21) rfl (ii_eq_f hv) ?_
            refine iconstV X0.here hexec rfl 0 (hb hbytes d24) (by decide) ?_
            exact Steps.refl _)⟩
    obtain ⟨pc, Ls, v, hpc, hv, cz⟩ := loop A.slots.size 0 (by omega) (fun j hj => absurd hj (Nat.not_lt_zero j)) c3
    have nv : narrow .boolean (.int v) = .int v := by rcases hv with ⟨rfl, -⟩ | ⟨rfl, -⟩ <;> rfl
    rcases hpc with rfl | rfl
    · exact ⟨s₁, some (.int v), _, _, _, X0, rfl, rfl, rfl, (fun h => by cases h), ⟨v, rfl, hh0, hv⟩, fun fs hl => cz.trans (X0.ireturnOut hexec hret nv (Or.inr (Or.inl rfl)) (hb hbytes d25) hl)⟩
    · exact ⟨s₁, some (.int v), _, _, _, X0, rfl, rfl, rfl, (fun h => by cases h), ⟨v, rfl, hh0, hv⟩, fun fs hl => cz.trans (X0.ireturnOut hexec hret nv (Or.inr (Or.inl rfl)) (hb hbytes d33) hl)⟩
  · have c3 : Steps p.tables e below (s₁.setTop (entryFrame m #[.ref a, .ref b] 3)) (s₁.setTop (mkF m 35 #[.val (.ref a), .val (.ref b), .unset] [.int 0])) := c2.trans (by
      refine XS.icmpYes X0.here hexec rfl (pc0 := 4) rfl (hb hbytes d4) rfl (ii_ne_t (ne32 a31 b31 hs)) (by decide) rfl ?_
      refine iconstV X0.here hexec rfl 0 (hb hbytes d34) (by decide) ?_
      exact Steps.refl _)
    exact ⟨s₁, some (.int 0), _, _, _, X0, rfl, rfl, rfl, (fun h => by cases h), ⟨0, rfl, hh0, Or.inr ⟨rfl, fun q => hs q.1⟩⟩, fun fs hl => c3.trans (X0.ireturnOut hexec hret rfl (Or.inr (Or.inl rfl)) (hb hbytes d35) hl)⟩
end LEq
theorem Cod.ty {cd : Int32} {n : Nat} {f : Nat → Int32} {V : Cell} (h : Cod cd n f V) : Typed .byte V := fun i v hv => by
  have hi : i < V.slots.size := (Array.getElem?_eq_some_iff.mp hv).1
  rcases h with ⟨-, k1, k2⟩ | ⟨-, k1, k2, -⟩
  · rw [(k2 i (by omega)).1] at hv; cases hv; exact fits_lo8 _
  · rcases Nat.mod_two_eq_zero_or_one i with e | e
    · obtain ⟨j, rfl⟩ : ∃ j, i = 2 * j := ⟨i / 2, by omega⟩
      rw [(k2 j (by omega)).1] at hv; cases hv; exact fits_lo8 _
    · obtain ⟨j, rfl⟩ : ∃ j, i = 2 * j + 1 := ⟨i / 2, by omega⟩
      rw [(k2 j (by omega)).2] at hv; cases hv; exact fits_lo8 _
/-- the same text -/
def SameT (n : Nat) (f : Nat → Int32) (k : Nat) (g : Nat → Int32) : Prop := n = k ∧ ∀ j, j < n → f j = g j
theorem lo8_inj {x y : Int32} (h0 : ¬ x < 0) (h1 : ¬ 255 < x) (k0 : ¬ y < 0) (k1 : ¬ 255 < y) (h : lo8 x = lo8 y) : x = y := by
  rw [← lo8_mask h0 h1, ← lo8_mask k0 k1, h]
/-- arrays coded by one coder are equal just where the texts are -/
theorem Cod.eqv {cd : Int32} {n k : Nat} {f g : Nat → Int32} {V V' : Cell} (h : Cod cd n f V) (h' : Cod cd k g V') (hf : ∀ j, j < n → ¬ f j < 0 ∧ ¬ 65535 < f j) (hg : ∀ j, j < k → ¬ g j < 0 ∧ ¬ 65535 < g j) : EqC V V' ↔ SameT n f k g := by
  have yvv : ∀ {W : Cell} {i : Nat} {x : Int32}, W.slots[i]? = some (.int x) → yv W i = x := fun q => by unfold yv; rw [q]
  rcases h with ⟨rfl, k1, k2⟩ | ⟨rfl, k1, k2, -⟩
  · rcases h' with ⟨-, m1, m2⟩ | ⟨e, -⟩
    · constructor
      · rintro ⟨e1, e2⟩
        refine ⟨by omega, fun j hj => ?_⟩
        have q := e2 j (by omega)
        rw [yvv (k2 j hj).1, yvv (m2 j (by omega)).1] at q
        exact lo8_inj (hf j hj).1 (k2 j hj).2 (hg j (by omega)).1 (m2 j (by omega)).2 q
      · rintro ⟨rfl, e2⟩
        refine ⟨by omega, fun j hj => ?_⟩
        rw [yvv (k2 j (by omega)).1, yvv (m2 j (by omega)).1, e2 j (by omega)]
    · exact absurd e (by decide)
  · rcases h' with ⟨e, -⟩ | ⟨-, m1, m2, -⟩
    · exact absurd e (by decide)
    · constructor
      · rintro ⟨e1, e2⟩
        refine ⟨by omega, fun j hj => ?_⟩
        have q1 := e2 (2 * j) (by omega)
        have q2 := e2 (2 * j + 1) (by omega)
        rw [yvv (k2 j hj).1, yvv (m2 j (by omega)).1] at q1
        rw [yvv (k2 j hj).2, yvv (m2 j (by omega)).2] at q2
        rw [← pair_says (hf j hj).1 (hf j hj).2, ← pair_says (hg j (by omega)).1 (hg j (by omega)).2, q1, q2]
      · rintro ⟨rfl, e2⟩
        refine ⟨by omega, fun i hi => ?_⟩
        rcases Nat.mod_two_eq_zero_or_one i with e | e
        · obtain ⟨j, rfl⟩ : ∃ j, i = 2 * j := ⟨i / 2, by omega⟩
          rw [yvv (k2 j (by omega)).1, yvv (m2 j (by omega)).1, e2 j (by omega)]
        · obtain ⟨j, rfl⟩ : ∃ j, i = 2 * j + 1 := ⟨i / 2, by omega⟩
          rw [yvv (k2 j (by omega)).2, yvv (m2 j (by omega)).2, e2 j (by omega)]
/-- two codings differ: so do the texts -/
theorem Cod.dif {cd cd' : Int32} {n k : Nat} {f g : Nat → Int32} {V V' : Cell} (h : Cod cd n f V) (h' : Cod cd' k g V') (hne : ¬ cd = cd') : ¬ SameT n f k g := by
  rintro ⟨rfl, e⟩
  rcases h with ⟨rfl, -, k2⟩ | ⟨rfl, -, -, j, hj, hw⟩
  · rcases h' with ⟨rfl, -⟩ | ⟨-, -, -, j, hj, hw⟩
    · exact hne rfl
    · exact (k2 j hj).2 (by rw [e j hj]; exact hw)
  · rcases h' with ⟨-, -, m2⟩ | ⟨rfl, -⟩
    · exact (m2 j hj).2 (by rw [← e j hj]; exact hw)
    · exact hne rfl
/-- an object of exactly C is an instance of C -/
theorem cinst {p : Program} {l : Launch} {e : Env} {R : Room} {s : State} {m : MethodId} {args : Array Value} {below : List Frame} {meth : Method} {c : Code} {T : State} {locs : List Loc} {cells slots : Nat} (X : Stand p l e R s m args below meth c T locs cells slots) (hexec : p.tables.exec = Jvm.exec) {own C : String} {index : Nat} (hown : s.vm.findClass own = some m.cls) (hlink : (Cond.classLink own index C).before args s = true) {a : Addr} (hE : Exact C a T)
    {g : JFrame} (hg : g.method = m) {rest : List Value} (hstack : g.stack = .ref a :: rest) (hdg : decode c.code g.pc = .ok (.instanceof index, 3)) :
    ∃ T', Stand p l e R s m args below meth c T' locs cells slots ∧ T'.heap = T.heap ∧ ∀ target, Steps p.tables e below (T'.setTop { g with pc := g.pc + 3, stack := .int 1 :: rest }) target → Steps p.tables e below (T.setTop g) target := by
  obtain ⟨cB, h1, D, h2, h3, h4⟩ := hE
  have h1' : s.vm.findClass C = some cB := by rw [← X.warmed.alike.findClass]; exact h1
  obtain ⟨vm', X', st⟩ := X.instanceofYes hexec hown hlink h2 h4 h1' (by rw [h3]; exact Jvm.Free.SB.assignable_self _ _) hg hstack hdg
  exact ⟨_, X', rfl, st⟩
theorem cself {p : Program} {l : Launch} {e : Env} {R : Room} {s : State} {m : MethodId} {args : Array Value} {below : List Frame} {meth : Method} {c : Code} {T : State} {locs : List Loc} {cells slots : Nat} (X : Stand p l e R s m args below meth c T locs cells slots) (hexec : p.tables.exec = Jvm.exec) {own C : String} {index : Nat} (hown : s.vm.findClass own = some m.cls) (hlink : (Cond.classLink own index C).before args s = true) {a : Addr} (hE : Exact C a T)
    {g : JFrame} (hg : g.method = m) {rest : List Value} (hstack : g.stack = .ref a :: rest) (hdg : decode c.code g.pc = .ok (.checkcast index, 3)) :
    ∃ T', Stand p l e R s m args below meth c T' locs cells slots ∧ T'.heap = T.heap ∧ ∀ target, Steps p.tables e below (T'.setTop { g with pc := g.pc + 3, stack := .ref a :: rest }) target → Steps p.tables e below (T.setTop g) target := by
  obtain ⟨cB, h1, D, h2, h3, h4⟩ := hE
  have h1' : s.vm.findClass C = some cB := by rw [← X.warmed.alike.findClass]; exact h1
  obtain ⟨vm', X', st⟩ := X.checkcastYes hexec hown hlink h2 h4 h1' (by rw [h3]; exact Jvm.Free.SB.assignable_self _ _) hg hstack hdg
  exact ⟨_, X', rfl, fun t h => st t (by rw [← hstack] at h; exact h)⟩
namespace SEq
def yN : MethodName := ⟨"java/lang/String", "equals", "(Ljava/lang/Object;)Z"⟩
abbrev yB : ByteArray := jdk_42_method_66_code
theorem d0 : decode yB 0 = .ok (.aload_n 0, 1) := by decide +kernel
theorem d1 : decode yB 1 = .ok (.aload_n 1, 1) := by decide +kernel
theorem d2 : decode yB 2 = .ok (.if_acmp (.ne) 5, 3) := by decide +kernel
theorem d5 : decode yB 5 = .ok (.iconst 1, 1) := by decide +kernel
theorem d6 : decode yB 6 = .ok (.ireturn, 1) := by decide +kernel
theorem d7 : decode yB 7 = .ok (.aload_n 1, 1) := by decide +kernel
theorem d8 : decode yB 8 = .ok (.instanceof 10, 3) := by decide +kernel
theorem d11 : decode yB 11 = .ok (.ifCond (.eq) 43, 3) := by decide +kernel
theorem d14 : decode yB 14 = .ok (.aload_n 1, 1) := by decide +kernel
theorem d15 : decode yB 15 = .ok (.checkcast 10, 3) := by decide +kernel
theorem d18 : decode yB 18 = .ok (.astore_n 2, 1) := by decide +kernel
theorem d19 : decode yB 19 = .ok (.getstatic 38, 3) := by decide +kernel
theorem d22 : decode yB 22 = .ok (.ifCond (.eq) 14, 3) := by decide +kernel
theorem d25 : decode yB 25 = .ok (.aload_n 0, 1) := by decide +kernel
theorem d26 : decode yB 26 = .ok (.getfield 15, 3) := by decide +kernel
theorem d29 : decode yB 29 = .ok (.aload_n 2, 1) := by decide +kernel
theorem d30 : decode yB 30 = .ok (.getfield 15, 3) := by decide +kernel
theorem d33 : decode yB 33 = .ok (.if_icmp (.ne) 21, 3) := by decide +kernel
theorem d36 : decode yB 36 = .ok (.aload_n 0, 1) := by decide +kernel
theorem d37 : decode yB 37 = .ok (.getfield 9, 3) := by decide +kernel
theorem d40 : decode yB 40 = .ok (.aload_n 2, 1) := by decide +kernel
theorem d41 : decode yB 41 = .ok (.getfield 9, 3) := by decide +kernel
theorem d44 : decode yB 44 = .ok (.invokestatic 541, 3) := by decide +kernel
theorem d47 : decode yB 47 = .ok (.ifCond (.eq) 7, 3) := by decide +kernel
theorem d50 : decode yB 50 = .ok (.iconst 1, 1) := by decide +kernel
theorem d51 : decode yB 51 = .ok (.goto 4, 3) := by decide +kernel
theorem d54 : decode yB 54 = .ok (.iconst 0, 1) := by decide +kernel
theorem d55 : decode yB 55 = .ok (.ireturn, 1) := by decide +kernel
def site : List Cond := [.classLink "java/lang/String" 10 "java/lang/String", .fieldLink "java/lang/String" 38 "java/lang/String" "COMPACT_STRINGS" "Z", .fieldLink "java/lang/String" 15 "java/lang/String" "coder" "B", .fieldLink "java/lang/String" 9 "java/lang/String" "value" "[B", LEq.tab] ++ staticW "java/lang/String" 541 LEq.yN
def tab : Cond := tabOf yN yB 3 (some .boolean) site
def P (x t : Addr) (V : Cell) (cd : Int32) (n : Nat) (f : Nat → Int32) (y t' : Addr) (V' : Cell) (cd' : Int32) (k : Nat) (g : Nat → Int32) (z : Int32) (args : Array Value) (s : State) : Prop := args = #[.ref x, .ref y] ∧ Txt x t V cd n f s ∧ Txt y t' V' cd' k g s ∧ StaticIs s "java/lang/String" "COMPACT_STRINGS" "Z" (.int z) ∧ ¬ z = 0
/-- equals(Object) of two Strings: whether the texts are the same -/
theorem law (l : Launch) (x t : Addr) (V : Cell) (cd : Int32) (n : Nat) (f : Nat → Int32) (y t' : Addr) (V' : Cell) (cd' : Int32) (k : Nat) (g : Nat → Int32) (z : Int32) : Law l yN 2 1 1 14 yB 3 (some .boolean) site (P x t V cd n f y t' V' cd' k g z) (Says01 (SameT n f k g)) [] 0 0 := by
  refine Law.of_walk (plainFor_of_name (by decide +kernel)) (by decide +kernel) (by decide +kernel) (by decide) (fun _ _ h => by rw [h.1]; rfl) (fun _ U U' hal hh h => ⟨h.1, h.2.1.mv hal hh, h.2.2.1.mv hal hh, h.2.2.2.1.there hal hh, h.2.2.2.2⟩) (fun r U U' V V' h1 hal h2 h => Says01.mv r U U' V V' h1 hal h2 h) ?_
  intro p e s m args below meth c s₁ X0 hexec hbytes hml hret hlk hnm hown hh0 W hP
  obtain ⟨rfl, hx, hy, s1, hz⟩ := hP
  have c1 : Steps p.tables e below (s₁.setTop (entryFrame m #[.ref x, .ref y] 3)) (s₁.setTop (mkF m 2 #[.val (.ref x), .val (.ref y), .unset] [.ref y, .ref x])) := Steps.trans (entry rfl) (by
    show Steps p.tables e below (s₁.setTop (mkF m 0 #[.val (.ref x), .val (.ref y), .unset] [])) _
    refine XS.aloadN X0.here hexec rfl (hb hbytes d0) rfl rfl ?_
    refine XS.aloadN X0.here hexec rfl (hb hbytes d1) rfl rfl ?_
    exact Steps.refl _)
  by_cases hxy : x = y
  · have c2 : Steps p.tables e below (s₁.setTop (entryFrame m #[.ref x, .ref y] 3)) (s₁.setTop (mkF m 6 #[.val (.ref x), .val (.ref y), .unset] [.int 1])) := c1.trans (by
      refine acmpNo X0.here hexec rfl (hb hbytes d2) rfl rfl rfl (by simp [acmp, hxy]) ?_
      refine iconstV X0.here hexec rfl 1 (hb hbytes d5) (by decide) ?_
      exact Steps.refl _)
    subst hxy
    have ec : cd = cd' := by
      obtain ⟨D, fd, a1, a2, a3⟩ := hx.2.2.1
      obtain ⟨D', fd', b1, b2, b3⟩ := hy.2.2.1
      cases a1.symm.trans b1
      obtain ⟨q1, q2, q3, q4⟩ := a2.1
      obtain ⟨r1, r2, r3, r4⟩ := b2.1
      cases q4.symm.trans r4
      cases a3.symm.trans b3; rfl
    have et : t = t' := by
      obtain ⟨D, fd, a1, a2, a3⟩ := hx.2.1
      obtain ⟨D', fd', b1, b2, b3⟩ := hy.2.1
      cases a1.symm.trans b1
      obtain ⟨q1, q2, q3, q4⟩ := a2.1
      obtain ⟨r1, r2, r3, r4⟩ := b2.1
      cases q4.symm.trans r4
      cases a3.symm.trans b3; rfl
    subst ec et
    have ev : V = V' := by cases hx.2.2.2.1.1.symm.trans hy.2.2.2.1.1; rfl
    subst ev
    have hs : SameT n f k g := (Cod.eqv hx.2.2.2.2.1 hy.2.2.2.2.1 hx.2.2.2.2.2 hy.2.2.2.2.2).mp ⟨rfl, fun _ _ => rfl⟩
    exact ⟨s₁, some (.int 1), _, _, _, X0, rfl, rfl, rfl, (fun h => by cases h), ⟨1, rfl, hh0, Or.inl ⟨rfl, hs⟩⟩, fun fs hl => c2.trans (X0.ireturnOut hexec hret rfl (Or.inr (Or.inl rfl)) (hb hbytes d6) hl)⟩
  · have c2 : Steps p.tables e below (s₁.setTop (entryFrame m #[.ref x, .ref y] 3)) (s₁.setTop (mkF m 8 #[.val (.ref x), .val (.ref y), .unset] [.ref y])) := c1.trans (by
      refine acmpYes X0.here hexec rfl (pc0 := 2) rfl (hb hbytes d2) rfl rfl rfl (by simp [acmp, hxy]) (by decide) rfl ?_
      refine XS.aloadN X0.here hexec rfl (hb hbytes d7) rfl rfl ?_
      exact Steps.refl _)
    obtain ⟨T3, X3, q3, st3⟩ := cinst X0 hexec hown (wk W (.classLink "java/lang/String" 10 "java/lang/String")) (hy.mv X0.warmed.alike hh0).1 (g := (mkF m 8 #[.val (.ref x), .val (.ref y), .unset] [.ref y])) rfl (rest := []) rfl (hb hbytes d8)
    have hh3 := q3.trans hh0
    have c4 : Steps p.tables e below (s₁.setTop (entryFrame m #[.ref x, .ref y] 3)) (T3.setTop (mkF m 15 #[.val (.ref x), .val (.ref y), .unset] [.ref y])) := (c2.trans (st3 _ (Steps.refl _))).trans (by
      refine XS.ifNo X3.here hexec rfl (hb hbytes d11) rfl (i0_eq_f (by decide)) ?_
      refine XS.aloadN X3.here hexec rfl (hb hbytes d14) rfl rfl ?_
      exact Steps.refl _)
    obtain ⟨T5, X5, q5, st5⟩ := cself X3 hexec hown (wk W (.classLink "java/lang/String" 10 "java/lang/String")) (hy.mv X3.warmed.alike hh3).1 (g := (mkF m 15 #[.val (.ref x), .val (.ref y), .unset] [.ref y])) rfl (rest := []) rfl (hb hbytes d15)
    have hh5 := q5.trans hh3
    have c6 : Steps p.tables e below (s₁.setTop (entryFrame m #[.ref x, .ref y] 3)) (T5.setTop (mkF m 19 #[.val (.ref x), .val (.ref y), .val (.ref y)] [])) := (c4.trans (st5 _ (Steps.refl _))).trans (by
      refine XS.astoreN X5.here hexec rfl (hb hbytes d18) rfl rfl rfl ?_
      exact Steps.refl _)
    obtain ⟨T7, X7, q7, st7⟩ := X5.sget hexec hown (wk W (.fieldLink "java/lang/String" 38 "java/lang/String" "COMPACT_STRINGS" "Z")) s1 (fun _ _ h => by rw [hh5]; exact h) (g := (mkF m 19 #[.val (.ref x), .val (.ref y), .val (.ref y)] [])) rfl (hb hbytes d19)
    have hh7 := q7.trans hh5
    have c8 : Steps p.tables e below (s₁.setTop (entryFrame m #[.ref x, .ref y] 3)) (T7.setTop (mkF m 26 #[.val (.ref x), .val (.ref y), .val (.ref y)] [.ref x])) := (c6.trans (st7 _ (Steps.refl _))).trans (by
      refine XS.ifNo X7.here hexec rfl (hb hbytes d22) rfl (i0_eq_f hz) ?_
      refine XS.aloadN X7.here hexec rfl (hb hbytes d25) rfl rfl ?_
      exact Steps.refl _)
    obtain ⟨T9, X9, q9, st9⟩ := X7.hget hexec hown (wk W (.fieldLink "java/lang/String" 15 "java/lang/String" "coder" "B")) (hx.mv X7.warmed.alike hh7).2.2.1 (g := (mkF m 26 #[.val (.ref x), .val (.ref y), .val (.ref y)] [.ref x])) rfl (rest := []) rfl (hb hbytes d26)
    have hh9 := q9.trans hh7
    have c10 : Steps p.tables e below (s₁.setTop (entryFrame m #[.ref x, .ref y] 3)) (T9.setTop (mkF m 30 #[.val (.ref x), .val (.ref y), .val (.ref y)] [.ref y, .int cd])) := (c8.trans (st9 _ (Steps.refl _))).trans (by
      refine XS.aloadN X9.here hexec rfl (hb hbytes d29) rfl rfl ?_
      exact Steps.refl _)
    obtain ⟨T11, X11, q11, st11⟩ := X9.hget hexec hown (wk W (.fieldLink "java/lang/String" 15 "java/lang/String" "coder" "B")) (hy.mv X9.warmed.alike hh9).2.2.1 (g := (mkF m 30 #[.val (.ref x), .val (.ref y), .val (.ref y)] [.ref y, .int cd])) rfl (rest := [.int cd]) rfl (hb hbytes d30)
    have hh11 := q11.trans hh9
    have c12 : Steps p.tables e below (s₁.setTop (entryFrame m #[.ref x, .ref y] 3)) (T11.setTop (mkF m 33 #[.val (.ref x), .val (.ref y), .val (.ref y)] [.int cd', .int cd])) := c10.trans (st11 _ (Steps.refl _))
    by_cases hcd : cd = cd'
    · subst hcd
      have c13 : Steps p.tables e below (s₁.setTop (entryFrame m #[.ref x, .ref y] 3)) (T11.setTop (mkF m 37 #[.val (.ref x), .val (.ref y), .val (.ref y)] [.ref x])) := c12.trans (by
        refine XS.icmpNo X11.here hexec rfl (hb hbytes d33) rfl (ii_ne_f rfl) ?_
        refine XS.aloadN X11.here hexec rfl (hb hbytes d36) rfl rfl ?_
        exact Steps.refl _)
      obtain ⟨T14, X14, q14, st14⟩ := X11.hget hexec hown (wk W (.fieldLink "java/lang/String" 9 "java/lang/String" "value" "[B")) (hx.mv X11.warmed.alike hh11).2.1 (g := (mkF m 37 #[.val (.ref x), .val (.ref y), .val (.ref y)] [.ref x])) rfl (rest := []) rfl (hb hbytes d37)
      have hh14 := q14.trans hh11
      have c15 : Steps p.tables e below (s₁.setTop (entryFrame m #[.ref x, .ref y] 3)) (T14.setTop (mkF m 41 #[.val (.ref x), .val (.ref y), .val (.ref y)] [.ref y, .ref t])) := (c13.trans (st14 _ (Steps.refl _))).trans (by
        refine XS.aloadN X14.here hexec rfl (hb hbytes d40) rfl rfl ?_
        exact Steps.refl _)
      obtain ⟨T16, X16, q16, st16⟩ := X14.hget hexec hown (wk W (.fieldLink "java/lang/String" 9 "java/lang/String" "value" "[B")) (hy.mv X14.warmed.alike hh14).2.1 (g := (mkF m 41 #[.val (.ref x), .val (.ref y), .val (.ref y)] [.ref y, .ref t])) rfl (rest := [.ref t]) rfl (hb hbytes d41)
      have hh16 := q16.trans hh14
      have c17 : Steps p.tables e below (s₁.setTop (entryFrame m #[.ref x, .ref y] 3)) (T16.setTop (mkF m 44 #[.val (.ref x), .val (.ref y), .val (.ref y)] [.ref t', .ref t])) := c15.trans (st16 _ (Steps.refl _))
      obtain ⟨v18, T18, X18, E18, g18⟩ := X16.callS hexec (LEq.law l t V t' V') hown (wks W (staticW "java/lang/String" 541 LEq.yN)) (wk W LEq.tab) (W := 0) (Nat.le_of_ble_eq_true rfl) (Nat.le_of_ble_eq_true rfl) (Nat.le_refl _) (Nat.le_refl _) (g := (mkF m 44 #[.val (.ref x), .val (.ref y), .val (.ref y)] [.ref t', .ref t])) rfl (by rw [hml]; rfl) c17 (argsL := [.ref t, .ref t']) (rest := []) rfl rfl (by show 2 * 0 + 0 ≤ _; decide) (hb hbytes d44) (⟨rfl, hx.2.2.2.1.mv X16.warmed.alike hh16, hx.2.2.2.2.1.ty, hy.2.2.2.1.mv X16.warmed.alike hh16, hy.2.2.2.2.1.ty⟩)
      obtain ⟨v, rfl, q18, hv⟩ := E18
      have iff := Cod.eqv hx.2.2.2.2.1 hy.2.2.2.2.1 hx.2.2.2.2.2 hy.2.2.2.2.2
      rcases hv with ⟨rfl, he⟩ | ⟨rfl, he⟩
      · have c19 : Steps p.tables e below (s₁.setTop (entryFrame m #[.ref x, .ref y] 3)) (T18.setTop (mkF m 55 #[.val (.ref x), .val (.ref y), .val (.ref y)] [.int 1])) := Steps.trans g18 (by
          refine XS.ifNo X18.here hexec rfl (hb hbytes d47) rfl (i0_eq_f (by decide)) ?_
          refine iconstV X18.here hexec rfl 1 (hb hbytes d50) (by decide) ?_
          refine XS.goto X18.here hexec rfl (pc0 := 51) rfl (hb hbytes d51) (by decide) rfl ?_
          exact Steps.refl _)
        exact ⟨T18, some (.int 1), _, _, _, X18, rfl, rfl, rfl, (fun h => by cases h), ⟨1, rfl, q18.trans hh16, Or.inl ⟨rfl, iff.mp he⟩⟩, fun fs hl => c19.trans (X18.ireturnOut hexec hret rfl (Or.inr (Or.inl rfl)) (hb hbytes d55) hl)⟩
      · have c19 : Steps p.tables e below (s₁.setTop (entryFrame m #[.ref x, .ref y] 3)) (T18.setTop (mkF m 55 #[.val (.ref x), .val (.ref y), .val (.ref y)] [.int 0])) := Steps.trans g18 (by
          refine XS.ifYes X18.here hexec rfl (pc0 := 47) rfl (hb hbytes d47) rfl (i0_eq_t rfl) (by decide) rfl ?_
          refine iconstV X18.here hexec rfl 0 (hb hbytes d54) (by decide) ?_
          exact Steps.refl _)
        exact ⟨T18, some (.int 0), _, _, _, X18, rfl, rfl, rfl, (fun h => by cases h), ⟨0, rfl, q18.trans hh16, Or.inr ⟨rfl, fun q => he (iff.mpr q)⟩⟩, fun fs hl => c19.trans (X18.ireturnOut hexec hret rfl (Or.inr (Or.inl rfl)) (hb hbytes d55) hl)⟩
    · have c13 : Steps p.tables e below (s₁.setTop (entryFrame m #[.ref x, .ref y] 3)) (T11.setTop (mkF m 55 #[.val (.ref x), .val (.ref y), .val (.ref y)] [.int 0])) := c12.trans (by
        refine XS.icmpYes X11.here hexec rfl (pc0 := 33) rfl (hb hbytes d33) rfl (ii_ne_t hcd) (by decide) rfl ?_
        refine iconstV X11.here hexec rfl 0 (hb hbytes d54) (by decide) ?_
        exact Steps.refl _)
      exact ⟨T11, some (.int 0), _, _, _, X11, rfl, rfl, rfl, (fun h => by cases h), ⟨0, rfl, hh11, Or.inr ⟨rfl, Cod.dif hx.2.2.2.2.1 hy.2.2.2.2.1 hcd⟩⟩, fun fs hl => c13.trans (X11.ireturnOut hexec hret rfl (Or.inr (Or.inl rfl)) (hb hbytes d55) hl)⟩
theorem pays {l : Launch} {R : Room} {p : Program} {e : Env} {below : List Frame} {s : State} {sargs : Array Value} {len W : Nat} (x t : Addr) (V : Cell) (cd : Int32) (n : Nat) (f : Nat → Int32) (y t' : Addr) (V' : Cell) (cd' : Int32) (k : Nat) (g : Nat → Int32) (z : Int32) (htab : tab.before sargs s = true) (hfr : 2 ≤ R.frames) (hlo : W + 28 ≤ R.locals) :
    Back l R p e below s sargs yN len W (fun A₁ a₁ => A₁.cells + 0 ≤ R.cells ∧ A₁.slots + 0 ≤ R.slots ∧ P x t V cd n f y t' V' cd' k g z a₁ A₁.U) (fun A₁ _ v₁ B₁ => Says01 (SameT n f k g) v₁ A₁.U B₁.U ∧ B₁.locs = A₁.locs ++ [] ∧ B₁.cells = A₁.cells + 0 ∧ B₁.slots = A₁.slots + 0) :=
  (law l x t V cd n f y t' V' cd' k g z).pays htab hfr (by omega)
end SEq
end StrChars
namespace StrChars.Road
open Jvm Sem ClassFile Op Lib Jvm.Stand Jvm.Free Jvm.Free.XT
open Jvm.Lib.Cold (StaticIs)
/-- the words of String.equals(Object) -/
abbrev wordsEq : List Jvm.Cond := [.code SEq.yN SEq.yB 3 (some .boolean), .initialized ST, .classLink ST 10 ST, .fieldLink ST 38 ST "COMPACT_STRINGS" "Z", .fieldLink ST 15 ST "coder" "B", .fieldLink ST 9 ST "value" "[B", .methodLink ST 541 LEq.yN, .static LEq.yN, .code LEq.yN LEq.yB 3 (some .boolean), .initialized "java/lang/StringLatin1"]
theorem tabEq_of {a : Array Value} {s : State} (h : ∀ w ∈ wordsEq, w.before a s = true) : SEq.tab.before a s = true := by
  have hl : LEq.tab.before a s = true := unparts (wk h (.code LEq.yN LEq.yB 3 (some .boolean))) (wks h (.initialized LEq.yN.cls :: LEq.site))
  have q := consq hl h
  exact unparts (wk q (.code SEq.yN SEq.yB 3 (some .boolean))) (wks q (.initialized SEq.yN.cls :: SEq.site))
theorem movedEq {Z s : State} {a0 args : Array Value} (hZ : Z.Warmed39 s.vm) (hw : ∀ d ∈ wordsEq, d.before a0 Z = true) : ∀ d ∈ wordsEq, d.before args s = true := fun d hd => by
  have t : ∀ d ∈ wordsEq, (d.onTables && d.keepsFace) = true := by decide +kernel
  exact RoadKit.mv hZ (hw d hd) (t d hd)
/-- the road's facts of a String, as the laws ask it -/
theorem txt_of {Z U : State} {a0 : Array Value} {kI : Nat} (wi : (Jvm.Cond.instantiable ST kI).before a0 Z = true) (al : Z.vm.Alike U.vm) {x t : Addr} {kb : ClassId} {cs : List Int32} {cd N2 : Int32} {vs : List Value} (E : RoadKit.Exa Z U.heap x ST) (V : RoadKit.Fld Z U.heap x ST "value" "[B" (.ref t)) (C : RoadKit.Fld Z U.heap x ST "coder" "B" (.int cd)) (K : RoadKit.Arv Z U.heap t kb .byte N2 vs (.int 0)) (hc : CodA cs cd N2 vs) (hb : ∀ c ∈ cs, ¬ c < 0 ∧ ¬ (65535 : Int32) < c) (l2 : cs.length ≤ 4000) :
    ∃ A, Txt x t A cd cs.length (fun j => cs.getD j 0) U := by
  obtain ⟨A, K1, K2, K3, K4, K5, K6⟩ := K
  have hcod := hc.cod (by omega) K3 K5
  obtain ⟨D, fV, fC, hB, F1, F2, g1, g2, -, -⟩ := strObj wi al E V C
  exact ⟨A, ⟨_, hB.2.2.1, D, hB.1, rfl, by cases q : D.vm <;> first | rfl | exact absurd q (hB.2.1.2 _)⟩, Has.of hB F1 g1, Has.of hB F2 g2, ⟨K1.1, State.isArrayOf_alike al K1.2.1, K1.2.2, by rcases hcod with ⟨-, q, -⟩ | ⟨-, q, -⟩ <;> omega⟩, hcod, fun j hj => by
    have e : cs.getD j 0 = cs[j] := by simp [List.getD_eq_getElem?_getD, hj]
    show ¬ cs.getD j 0 < 0 ∧ ¬ 65535 < cs.getD j 0
    rw [e]; exact hb _ (List.getElem_mem _)⟩
theorem same_list (cs ds : List Int32) : SameT cs.length (fun j => cs.getD j 0) ds.length (fun j => ds.getD j 0) ↔ cs = ds := by
  constructor
  · rintro ⟨e, q⟩
    refine List.ext_getElem e fun j h1 h2 => ?_
    have := q j h1
    simpa [List.getD_eq_getElem?_getD, h1, h2] using this
  · rintro rfl
    exact ⟨rfl, fun _ _ => rfl⟩
/-- **equals(Object) OF TWO SUCH STRINGS**: 1 just where the chars are the same -/
theorem eqW {p : Program} {l : Launch} {e : Env} {R : Room} {s : State} {args : Array Value} {below : List Frame} {len W : Nat} {Z : State} {a0 : Array Value} {h : Heap} (hZ : Z.Warmed39 s.vm) (hw : ∀ d ∈ wordsEq, d.before a0 Z = true) {kI : Nat} (wi : (Jvm.Cond.instantiable ST kI).before a0 Z = true)
    {x t : Addr} {kb : ClassId} {cs : List Int32} {cd N2 : Int32} {vs : List Value} (E : RoadKit.Exa Z h x ST) (V : RoadKit.Fld Z h x ST "value" "[B" (.ref t)) (C : RoadKit.Fld Z h x ST "coder" "B" (.int cd)) (K : RoadKit.Arv Z h t kb .byte N2 vs (.int 0)) (hc : CodA cs cd N2 vs) (hb : ∀ c ∈ cs, ¬ c < 0 ∧ ¬ (65535 : Int32) < c) (l2 : cs.length ≤ 4000)
    {y t' : Addr} {kb' : ClassId} {ds : List Int32} {cd' N2' : Int32} {vs' : List Value} (E' : RoadKit.Exa Z h y ST) (V' : RoadKit.Fld Z h y ST "value" "[B" (.ref t')) (C' : RoadKit.Fld Z h y ST "coder" "B" (.int cd')) (K' : RoadKit.Arv Z h t' kb' .byte N2' vs' (.int 0)) (hc' : CodA ds cd' N2' vs') (hb' : ∀ c ∈ ds, ¬ c < 0 ∧ ¬ (65535 : Int32) < c) (l2' : ds.length ≤ 4000)
    {z : Int32} (S : RoadKit.Sta Z h ST "COMPACT_STRINGS" "Z" (.int z)) (hz : ¬ z = 0) (hfr : 2 ≤ R.frames) (hlo : W + 28 ≤ R.locals) :
    Back l R p e below s args (⟨"java/lang/String", "equals", "(Ljava/lang/Object;)Z"⟩ : MethodName) len W (fun P a => a = #[.ref x, .ref y] ∧ P.U.heap = h ∧ P.cells + 0 ≤ R.cells ∧ P.slots + 0 ≤ R.slots)
      (fun P _ v B => ∃ L, (((v = some (.int 1) ∧ cs = ds) ∨ (v = some (.int 0) ∧ ¬ cs = ds)) ∧ L = [] ∧ B.U.heap = h) ∧ B.locs = P.locs ++ L ∧ B.cells = P.cells + 0 ∧ B.slots = P.slots + 0) := by
  intro m meth c P g ig mk a X hg hsize hdg hW hn hp'
  obtain ⟨rfl, rfl, r1, r2⟩ := hp'
  have al : Z.vm.Alike P.U.vm := hZ.alike.trans X.warmed.alike
  obtain ⟨A, hx⟩ := txt_of wi al E V C K hc hb l2
  obtain ⟨A', hy⟩ := txt_of wi al E' V' C' K' hc' hb' l2'
  obtain ⟨v, B, X', ⟨⟨w, hv, hh, hq⟩, hl, hk, hs⟩, st⟩ := SEq.pays x t A cd cs.length (fun j => cs.getD j 0) y t' A' cd' ds.length (fun j => ds.getD j 0) z (tabEq_of (movedEq hZ hw)) hfr hlo m meth c P g ig mk _ X hg hsize hdg hW hn ⟨r1, r2, rfl, hx, hy, sta_is al S, hz⟩
  refine ⟨v, B, X', ⟨[], ⟨?_, rfl, hh⟩, hl, hk, hs⟩, st⟩
  rcases hq with ⟨rfl, q⟩ | ⟨rfl, q⟩
  · exact Or.inl ⟨hv, (same_list cs ds).mp q⟩
  · exact Or.inr ⟨hv, fun e => q ((same_list cs ds).mpr e)⟩
end StrChars.Road
namespace StrChars
open Jvm Sem ClassFile Op Lib Jvm.Stand Jvm.Free.XT Jvm.Free.ALB Jvm.Free.JM Jvm.Free
open Jvm.Lib.Cold (StaticIs)
namespace ChN
def yN : MethodName := ⟨"java/lang/String", "charAt", "(I)C"⟩
abbrev yB : ByteArray := jdk_42_method_56_code
theorem d0 : decode yB 0 = .ok (.aload_n 0, 1) := by decide +kernel
theorem d1 : decode yB 1 = .ok (.invokevirtual 492, 3) := by decide +kernel
theorem d4 : decode yB 4 = .ok (.ifCond (.eq) 12, 3) := by decide +kernel
theorem d7 : decode yB 7 = .ok (.aload_n 0, 1) := by decide +kernel
theorem d8 : decode yB 8 = .ok (.getfield 9, 3) := by decide +kernel
theorem d11 : decode yB 11 = .ok (.iload_n 1, 1) := by decide +kernel
theorem d12 : decode yB 12 = .ok (.invokestatic 495, 3) := by decide +kernel
theorem d15 : decode yB 15 = .ok (.ireturn, 1) := by decide +kernel
def site : List Cond := [.fieldLink "java/lang/String" 9 "java/lang/String" "value" "[B", IsL.tab, LChA.tab] ++ virtW "java/lang/String" 492 "java/lang/String" IsL.yN IsL.yN ++ staticW "java/lang/String" 495 LChA.yN
def tab : Cond := tabOf yN yB 2 (some .char) site
def P (x t : Addr) (V : Cell) (n : Nat) (f : Nat → Int32) (z : Int32) (fm : Value) (i : Nat) (args : Array Value) (s : State) : Prop := args = #[.ref x, .int (Int32.ofNat i)] ∧ Txt x t V 0 n f s ∧ i < n ∧ StaticIs s "java/lang/String" "COMPACT_STRINGS" "Z" (.int z) ∧ ¬ z = 0 ∧ StaticIs s "jdk/internal/util/Preconditions" "SIOOBE_FORMATTER" "Ljava/util/function/BiFunction;" fm ∧ fm.isRef = true
def E (f : Nat → Int32) (i : Nat) (r : Option Value) (s u : State) : Prop := XT.PureE (some (.int (f i))) r s u
/-- charAt(i) of a Latin-1 String of n chars, i < n: f i -/
theorem law (l : Launch) (x t : Addr) (V : Cell) (n : Nat) (f : Nat → Int32) (z : Int32) (fm : Value) (i : Nat) : Law l yN 2 1 3 40 yB 2 (some .char) site (P x t V n f z fm i) (E f i) [] 0 0 := by
  refine Law.of_walk (plainFor_of_name (by decide +kernel)) (by decide +kernel) (by decide +kernel) (by decide) (fun _ _ h => by rw [h.1]; rfl) (fun _ U U' hal hh h => ⟨h.1, h.2.1.mv hal hh, h.2.2.1, h.2.2.2.1.there hal hh, h.2.2.2.2.1, h.2.2.2.2.2.1.there hal hh, h.2.2.2.2.2.2⟩) (fun r U U' V V' h1 hal h2 h => XT.PureE.mv r U U' V V' h1 hal h2 h) ?_
  intro p e s m args below meth c s₁ X0 hexec hbytes hml hret hlk hnm hown hh0 W hP
  obtain ⟨rfl, hx, hi, s1, hz, s3, rf⟩ := hP
  have v31 := hx.2.2.2.1.2.2.2
  have hr := hx.2.2.2.2.2 i hi
  have hx0 := hx.mv X0.warmed.alike hh0
  have c1 : Steps p.tables e below (s₁.setTop (entryFrame m #[.ref x, .int (Int32.ofNat i)] 2)) (s₁.setTop (mkF m 1 #[.val (.ref x), .val (.int (Int32.ofNat i))] [.ref x])) := Steps.trans (entry rfl) (by
    show Steps p.tables e below (s₁.setTop (mkF m 0 #[.val (.ref x), .val (.int (Int32.ofNat i))] [])) _
    refine XS.aloadN X0.here hexec rfl (hb hbytes d0) rfl rfl ?_
    exact Steps.refl _)
  obtain ⟨v2, T2, X2, E2, g2⟩ := X0.callV hexec (IsL.law l x 0 z) hown (wks W (virtW "java/lang/String" 492 "java/lang/String" IsL.yN IsL.yN)) rfl (by decide) (wk W IsL.tab) (W := 0) (Nat.le_of_ble_eq_true rfl) (Nat.le_of_ble_eq_true rfl) (Nat.le_refl _) (Nat.le_refl _) (hx0.1.fc X0.warmed.alike) hx0.1.is (g := (mkF m 1 #[.val (.ref x), .val (.int (Int32.ofNat i))] [.ref x])) rfl (by rw [hml]; rfl) c1 (argsL := []) (rest := []) rfl rfl (by show 2 * 0 + 0 ≤ _; decide) (hb hbytes d1) (⟨rfl, hx0.2.2.1, hx.2.2.2.2.1.cd, s1.there X0.warmed.alike hh0, hz⟩)
  obtain ⟨rfl, q2⟩ := E2
  have hh2 := q2.trans hh0
  have hx2 := hx.mv X2.warmed.alike hh2
  obtain ⟨-, k1, k2⟩ | ⟨k0, -⟩ := hx.2.2.2.2.1
  · have c3 : Steps p.tables e below (s₁.setTop (entryFrame m #[.ref x, .int (Int32.ofNat i)] 2)) (T2.setTop (mkF m 8 #[.val (.ref x), .val (.int (Int32.ofNat i))] [.ref x])) := Steps.trans g2 (by
      refine XS.ifNo X2.here hexec rfl (hb hbytes d4) rfl (i0_eq_f (by decide)) ?_
      refine XS.aloadN X2.here hexec rfl (hb hbytes d7) rfl rfl ?_
      exact Steps.refl _)
    obtain ⟨T4, X4, q4, st4⟩ := X2.hget hexec hown (wk W (.fieldLink "java/lang/String" 9 "java/lang/String" "value" "[B")) hx2.2.1 (g := (mkF m 8 #[.val (.ref x), .val (.int (Int32.ofNat i))] [.ref x])) rfl (rest := []) rfl (hb hbytes d8)
    have hh4 := q4.trans hh2
    have c5 : Steps p.tables e below (s₁.setTop (entryFrame m #[.ref x, .int (Int32.ofNat i)] 2)) (T4.setTop (mkF m 12 #[.val (.ref x), .val (.int (Int32.ofNat i))] [.int (Int32.ofNat i), .ref t])) := (c3.trans (st4 _ (Steps.refl _))).trans (by
      refine XS.iloadN X4.here hexec rfl (hb hbytes d11) rfl ?_
      exact Steps.refl _)
    obtain ⟨v6, T6, X6, E6, g6⟩ := X4.callS hexec (LChA.law l t V i (lo8 (f i)) fm) hown (wks W (staticW "java/lang/String" 495 LChA.yN)) (wk W LChA.tab) (W := 0) (Nat.le_of_ble_eq_true rfl) (Nat.le_of_ble_eq_true rfl) (Nat.le_refl _) (Nat.le_refl _) (g := (mkF m 12 #[.val (.ref x), .val (.int (Int32.ofNat i))] [.int (Int32.ofNat i), .ref t])) rfl (by rw [hml]; rfl) c5 (argsL := [.ref t, .int (Int32.ofNat i)]) (rest := []) rfl rfl (by show 2 * 0 + 0 ≤ _; decide) (hb hbytes d12) (⟨rfl, hx.2.2.2.1.mv X4.warmed.alike hh4, (k2 i hi).1, s3.there X4.warmed.alike hh4, rf⟩)
    obtain ⟨rfl, q6⟩ := E6
    rw [chr8_lo8 hr.1 (k2 i hi).2] at g6
    exact ⟨T6, some (.int (f i)), _, _, _, X6, rfl, rfl, rfl, (fun h => by cases h), ⟨rfl, q6.trans hh4⟩, fun fs hl => Steps.trans g6 (X6.ireturnOut hexec hret (narrow_ch hr.1 hr.2) (Or.inr (Or.inr (Or.inr (Or.inl rfl)))) (hb hbytes d15) hl)⟩
  · exact absurd k0 (by decide)
theorem pays {l : Launch} {R : Room} {p : Program} {e : Env} {below : List Frame} {s : State} {sargs : Array Value} {len W : Nat} (x t : Addr) (V : Cell) (n : Nat) (f : Nat → Int32) (z : Int32) (fm : Value) (i : Nat) (htab : tab.before sargs s = true) (hfr : 4 ≤ R.frames) (hlo : W + 53 ≤ R.locals) :
    Back l R p e below s sargs yN len W (fun A₁ a₁ => A₁.cells + 0 ≤ R.cells ∧ A₁.slots + 0 ≤ R.slots ∧ P x t V n f z fm i a₁ A₁.U) (fun A₁ _ v₁ B₁ => E f i v₁ A₁.U B₁.U ∧ B₁.locs = A₁.locs ++ [] ∧ B₁.cells = A₁.cells + 0 ∧ B₁.slots = A₁.slots + 0) :=
  (law l x t V n f z fm i).pays htab hfr (by omega)
end ChN
end StrChars
namespace StrChars.Road
open Jvm Sem ClassFile Op Lib Jvm.Stand Jvm.Free Jvm.Free.XT
open Jvm.Lib.Cold (StaticIs)
/-- the words of String.charAt(int), the Latin-1 road alone -/
abbrev wordsChN : List Jvm.Cond := [.code ChN.yN ChN.yB 2 (some .char), .initialized ST, .fieldLink ST 9 ST "value" "[B", .fieldLink ST 38 ST "COMPACT_STRINGS" "Z", .fieldLink ST 15 ST "coder" "B", .code IsL.yN IsL.yB 1 (some .boolean), .methodLink ST 492 IsL.yN, .declares IsL.yN, .selects ST IsL.yN IsL.yN, .instanceMethod IsL.yN,
  .methodLink ST 495 LChA.yN, .static LChA.yN, .code LChA.yN LChA.yB 2 (some .char), .initialized "java/lang/StringLatin1", .methodLink "java/lang/StringLatin1" 9 JO.Str_checkIndex.yN, .static JO.Str_checkIndex.yN, .code JO.Str_checkIndex.yN JO.Str_checkIndex.yB 2 none,
  .fieldLink ST 1053 "jdk/internal/util/Preconditions" "SIOOBE_FORMATTER" "Ljava/util/function/BiFunction;", .methodLink ST 1059 JC.PreCheck.yN, .static JC.PreCheck.yN, .code JC.PreCheck.yN JC.PreCheck.yB 3 (some .int), .initialized "jdk/internal/util/Preconditions"]
theorem tabChN_of {a : Array Value} {s : State} (h : ∀ w ∈ wordsChN, w.before a s = true) : ChN.tab.before a s = true := by
  have hp : JC.PreCheck.tab.before a s = true := unparts (wk h (.code JC.PreCheck.yN JC.PreCheck.yB 3 (some .int))) (wks h (.initialized JC.PreCheck.yN.cls :: JC.PreCheck.site))
  have qk := consq hp h
  have hk : JO.Str_checkIndex.tab.before a s = true := unparts (wk qk (.code JO.Str_checkIndex.yN JO.Str_checkIndex.yB 2 none)) (wks qk (.initialized JO.Str_checkIndex.yN.cls :: JO.Str_checkIndex.site))
  have ql := consq hk h
  have hl : LChA.tab.before a s = true := unparts (wk ql (.code LChA.yN LChA.yB 2 (some .char))) (wks ql (.initialized LChA.yN.cls :: LChA.site))
  have hi : IsL.tab.before a s = true := unparts (wk h (.code IsL.yN IsL.yB 1 (some .boolean))) (wks h (.initialized IsL.yN.cls :: IsL.site))
  have q := consq hi (consq hl h)
  exact unparts (wk q (.code ChN.yN ChN.yB 2 (some .char))) (wks q (.initialized ChN.yN.cls :: ChN.site))
theorem movedChN {Z s : State} {a0 args : Array Value} (hZ : Z.Warmed39 s.vm) (hw : ∀ d ∈ wordsChN, d.before a0 Z = true) : ∀ d ∈ wordsChN, d.before args s = true := fun d hd => by
  have t : ∀ d ∈ wordsChN, (d.onTables && d.keepsFace) = true := by decide +kernel
  exact RoadKit.mv hZ (hw d hd) (t d hd)
/-- **charAt(i) OF A LATIN-1 STRING**, i < n: the char -/
theorem chN {p : Program} {l : Launch} {e : Env} {R : Room} {s : State} {args : Array Value} {below : List Frame} {len W : Nat} {Z : State} {a0 : Array Value} {h : Heap} (hZ : Z.Warmed39 s.vm) (hw : ∀ d ∈ wordsChN, d.before a0 Z = true) {kI : Nat} (wi : (Jvm.Cond.instantiable ST kI).before a0 Z = true)
    {x t : Addr} {kb : ClassId} {cs : List Int32} {N2 z : Int32} {vs : List Value} {fm : Value} {i : Nat} {j : Int32} (E : RoadKit.Exa Z h x ST) (V : RoadKit.Fld Z h x ST "value" "[B" (.ref t)) (C : RoadKit.Fld Z h x ST "coder" "B" (.int 0)) (K : RoadKit.Arv Z h t kb .byte N2 vs (.int 0)) (hc : CodA cs 0 N2 vs) (hb : ∀ c ∈ cs, ¬ c < 0 ∧ ¬ (65535 : Int32) < c)
    (S : RoadKit.Sta Z h ST "COMPACT_STRINGS" "Z" (.int z)) (hz : ¬ z = 0) (F : RoadKit.Sta Z h "jdk/internal/util/Preconditions" "SIOOBE_FORMATTER" "Ljava/util/function/BiFunction;" fm) (rf : fm.isRef = true) (l2 : cs.length ≤ 4000) (hi : i < cs.length) (hj : j = Int32.ofNat i) (hfr : 4 ≤ R.frames) (hlo : W + 53 ≤ R.locals) :
    Back l R p e below s args (⟨"java/lang/String", "charAt", "(I)C"⟩ : MethodName) len W (fun P a => a = #[.ref x, .int j] ∧ P.U.heap = h ∧ P.cells + 0 ≤ R.cells ∧ P.slots + 0 ≤ R.slots)
      (fun P _ v B => ∃ L, (v = some (.int (cs.getD i 0)) ∧ L = [] ∧ B.U.heap = h) ∧ B.locs = P.locs ++ L ∧ B.cells = P.cells + 0 ∧ B.slots = P.slots + 0) := by
  subst hj
  intro m meth c P g ig mk a X hg hsize hdg hW hn hp'
  obtain ⟨rfl, rfl, r1, r2⟩ := hp'
  have al : Z.vm.Alike P.U.vm := hZ.alike.trans X.warmed.alike
  obtain ⟨A, hx⟩ := txt_of wi al E V C K hc hb l2
  obtain ⟨v, B, X', ⟨⟨hv, hh⟩, hl, hk, hs⟩, st⟩ := ChN.pays x t A cs.length (fun j => cs.getD j 0) z fm i (tabChN_of (movedChN hZ hw)) hfr hlo m meth c P g ig mk _ X hg hsize hdg hW hn ⟨r1, r2, rfl, hx, hi, sta_is al S, hz, sta_is al F, rf⟩
  exact ⟨v, B, X', ⟨[], ⟨hv, rfl, hh⟩, hl, hk, hs⟩, st⟩
/-- what backV says of its String, as the contracts of this text ask it: cs's low bytes, coder 0 -/
theorem codOf {cs : List Int32} {n : Nat} (hn : cs.length = n) (hb : ∀ c ∈ cs, ¬ 255 < c) : CodA cs 0 (Int32.ofNat n) ((cs.map lo8).map Value.int) := Or.inl ⟨rfl, by rw [hn], by simp [List.map_map, Function.comp_def], hb⟩
end StrChars.Road
end Jvm.Pilot.@@N@@

namespace Jvm.Pilot.@@N@@
open Jvm Jvm.ClassFile Sem Op Lib Jvm.Free Jvm.Stand Jvm.LawKit Jvm.RoadKit Bundle Jvm.Pilot.@@N@@.Jvm.D
def own_lits : List (String × Nat × String × List Int32) := [("com/example/grantline/grantline/eval/OwnerCoversPinLaw", 40, "", []), ("com/example/grantline/grantline/eval/CredentialTarget$Owner", 18, "*", [42])]
section OwnKit
variable {p : Program} {l : Launch} {e : Env} {R : Room} {s : State} {m : MethodId} {args : Array Value} {below : List Frame} {meth : Method} {c : Code} {T : State} {locs : List Loc} {cells slots : Nat} {Z : State} {a0 : Array Value} {h : Heap}
/-- the run from t ends, and Q holds of its end -/
def own_Fin (tb : Tables) (e : Env) (below : List Frame) (Q : Outcome → State → Prop) (t : State) : Prop := ∃ s₂ o, Steps tb e below t s₂ ∧ s₂.status = .running ∧ Ended s₂ below o ∧ Q o s₂
theorem own_go {tb : Tables} {Q : Outcome → State → Prop} {t t' : State} (k : ∀ z, Steps tb e below t' z → Steps tb e below t z) (f : own_Fin tb e below Q t') : own_Fin tb e below Q t := by
  obtain ⟨s₂, o, h1, h2⟩ := f
  exact ⟨s₂, o, k _ h1, h2⟩
/-- the run from t comes to a state of which G holds -/
def own_Go (tb : Tables) (e : Env) (below : List Frame) (G : State → Prop) (t : State) : Prop := ∃ t', G t' ∧ ∀ z, Steps tb e below t' z → Steps tb e below t z
theorem own_on {tb : Tables} {G : State → Prop} {t t' : State} (k : ∀ z, Steps tb e below t' z → Steps tb e below t z) (f : own_Go tb e below G t') : own_Go tb e below G t := by
  obtain ⟨t₂, h1, h2⟩ := f
  exact ⟨t₂, h1, fun z q => k z (h2 z q)⟩
theorem own_here {tb : Tables} {G : State → Prop} {t : State} (k : G t) : own_Go tb e below G t := ⟨t, k, fun _ q => q⟩
def own_End (s : State) (Q : Option Value → Heap → List Loc → Prop) (C S : Nat) (o : Outcome) (U : State) : Prop := ∃ v L, o = .returned v ∧ Q v U.heap L ∧ FrameEnd s o U L C S
variable {Q : Option Value → Heap → List Loc → Prop} {C S : Nat}
theorem own_retI (X : Stand p l e R s m args below meth c T locs cells slots) (hx : p.tables.exec = Jvm.exec) (hlk : meth.locks = false) {pc : Nat} {Ls : Array Slot} {z : Int32} {rest : List Value} (hret : meth.sig.returnType = some .int) (hd : decode c.code pc = .ok (.ireturn, 1)) (hq : Q (some (.int z)) T.heap locs) (hC : cells ≤ C) (hS : slots ≤ S) :
    own_Fin p.tables e below (own_End s Q C S) (T.setTop (mkF m pc Ls (.int z :: rest))) := by
  obtain ⟨fs, hr, hrun, hended, hW, hsame⟩ := X.leave (v := some (.int z)) (fun h => by rw [hret] at h; cases h) hlk
  exact ⟨_, _, retOut X hx hret rfl (Or.inl ⟨rfl, Or.inl rfl, _, rfl⟩) hd hr, hrun, hended, _, _, rfl, hq, ⟨_, rfl⟩, hW, hsame.mono hC hS⟩
theorem own_retN (X : Stand p l e R s m args below meth c T locs cells slots) (hx : p.tables.exec = Jvm.exec) (hlk : meth.locks = false) {pc : Nat} {Ls : Array Slot} {z : Int32} {rest : List Value} {t : FieldType} (hret : meth.sig.returnType = some t) (ht : t = .boolean ∨ t = .byte ∨ t = .char ∨ t = .short) (hd : decode c.code pc = .ok (.ireturn, 1)) (hq : Q (some (.int (nar t z))) T.heap locs) (hC : cells ≤ C) (hS : slots ≤ S) :
    own_Fin p.tables e below (own_End s Q C S) (T.setTop (mkF m pc Ls (.int z :: rest))) := by
  obtain ⟨fs, hr, hrun, hended, hW, hsame⟩ := X.leave (v := some (.int (nar t z))) (fun h => by rw [hret] at h; cases h) hlk
  exact ⟨_, _, retN X hx hret ht hd hr, hrun, hended, _, _, rfl, hq, ⟨_, rfl⟩, hW, hsame.mono hC hS⟩
theorem own_retJ (X : Stand p l e R s m args below meth c T locs cells slots) (hx : p.tables.exec = Jvm.exec) (hlk : meth.locks = false) {pc : Nat} {Ls : Array Slot} {z : Int64} {rest : List Value} (hret : meth.sig.returnType = some .long) (hd : decode c.code pc = .ok (.lreturn, 1)) (hq : Q (some (.long z)) T.heap locs) (hC : cells ≤ C) (hS : slots ≤ S) :
    own_Fin p.tables e below (own_End s Q C S) (T.setTop (mkF m pc Ls (.long z :: rest))) := by
  obtain ⟨fs, hr, hrun, hended, hW, hsame⟩ := X.leave (v := some (.long z)) (fun h => by rw [hret] at h; cases h) hlk
  exact ⟨_, _, retOut X hx hret rfl (Or.inr (Or.inl ⟨rfl, rfl, _, rfl⟩)) hd hr, hrun, hended, _, _, rfl, hq, ⟨_, rfl⟩, hW, hsame.mono hC hS⟩
theorem own_retA (X : Stand p l e R s m args below meth c T locs cells slots) (hx : p.tables.exec = Jvm.exec) (hlk : meth.locks = false) {pc : Nat} {Ls : Array Slot} {w : Value} {rest : List Value} {t : FieldType} (hret : meth.sig.returnType = some t) (ht : t.isReference = true) (hw : w.isRef = true) (hd : decode c.code pc = .ok (.areturn, 1)) (hq : Q (some w) T.heap locs) (hC : cells ≤ C) (hS : slots ≤ S) :
    own_Fin p.tables e below (own_End s Q C S) (T.setTop (mkF m pc Ls (w :: rest))) := by
  obtain ⟨fs, hr, hrun, hended, hW, hsame⟩ := X.leave (v := some w) (fun h => by rw [hret] at h; cases h) hlk
  have hn : narrow t w = w := by cases t <;> first | (cases ht; done) | (cases w <;> first | (cases hw; done) | rfl)
  exact ⟨_, _, retOut X hx hret hn (Or.inr (Or.inr (Or.inr (Or.inr ⟨rfl, ht, hw⟩)))) hd hr, hrun, hended, _, _, rfl, hq, ⟨_, rfl⟩, hW, hsame.mono hC hS⟩
theorem own_retV (X : Stand p l e R s m args below meth c T locs cells slots) (hx : p.tables.exec = Jvm.exec) (hlk : meth.locks = false) {pc : Nat} {Ls : Array Slot} (hret : meth.sig.returnType = none) (hd : decode c.code pc = .ok (.return_, 1)) (hq : Q none T.heap locs) (hC : cells ≤ C) (hS : slots ≤ S) :
    own_Fin p.tables e below (own_End s Q C S) (T.setTop (mkF m pc Ls [])) := by
  obtain ⟨fs, hr, hrun, hended, hW, hsame⟩ := X.leave (v := none) (fun _ => rfl) hlk
  exact ⟨_, _, X.returnOut hx hret hd hr, hrun, hended, _, _, rfl, hq, ⟨_, rfl⟩, hW, hsame.mono hC hS⟩
/-- what a body's contract says: called with as' at the heap h0 it returns, and Q holds of what it returns, of the heap and of the places written -/
def own_Met (l : Launch) (y : MethodName) (bytes : ByteArray) (maxL : Nat) (ret : Option FieldType) (rm : Room) (ws : List Jvm.Cond) (as' : Array Value) (Z : State) (h0 : Heap) (C S : Nat) (Q : Option Value → Heap → List Loc → Prop) : Prop :=
  MetFree l y (head1 (Jvm.Cond.code y bytes maxL ret :: ws) rm) (fun a U => a = as' ∧ Z.Warmed39 U.vm ∧ U.heap = h0) (fun _ _ _ _ _ => True) (fun _ U o U' => ∃ v L, o = .returned v ∧ Q v U'.heap L ∧ FrameEnd U o U' L C S)
theorem own_met {y : MethodName} {bytes : ByteArray} {maxL : Nat} {ret : Option FieldType} {rm : Room} {ws : List Jvm.Cond} {as' : Array Value} {h0 : Heap} (hy : plainFor y = true)
    (body : ∀ (p : Program) (e : Env) (s : State) (m : MethodId) (below : List Frame) (meth : Method) (c : Code) (s₁ : State), p.tables.exec = Jvm.exec → c.code = bytes → c.maxLocals = maxL → s.vm.findClass y.cls = some m.cls → meth.name = y.name → meth.sig.returnType = ret → meth.locks = false → Z.Warmed39 s.vm → s₁.heap = h0 → Stand p l e rm s m as' below meth c s₁ [] 0 0 → own_Fin p.tables e below (own_End s Q C S) (s₁.setTop (entryFrame m as' maxL))) :
    own_Met l y bytes maxL ret rm ws as' Z h0 C S Q := by
  refine MetFree.of_bodySF hy hisR ?_
  intro p e s m args below meth c s₁ Bd hml0 hP hK
  obtain ⟨rfl, hZ, hh⟩ := hP
  have X0 : Stand p l e rm s m args below meth c s₁ [] 0 0 := Stand.of_body Bd
  exact body p e s m below meth c s₁ Bd.exec Bd.bytes hml0 (findClass_of_methodNamed Bd.named) (name_of_methodNamed Bd.named Bd.method).1 Bd.returns Bd.notSynchronized hZ (by rw [← hh, Bd.state]; rfl) X0
section Calls
variable {own : String} {index : Nat} {y : MethodName} {bytes : ByteArray} {maxL : Nat} {ret : Option FieldType} {rm : Room} {as' : Array Value}
theorem own_callS (X : Stand p l e R s m args below meth c T locs cells slots) (hx : p.tables.exec = Jvm.exec) (hZ : Z.Warmed39 s.vm) (hown : s.vm.findClass own = some m.cls) (w1 : (Jvm.Cond.methodLink own index y).before a0 Z = true) (w2 : (Jvm.Cond.static y).before a0 Z = true) (w3 : (Jvm.Cond.initialized y.cls).before a0 Z = true) (w4 : (Jvm.Cond.code y bytes maxL ret).before a0 Z = true)
    (hy : y.cls ≠ "java/lang/invoke/MethodHandle" ∧ y.cls ≠ "java/lang/invoke/VarHandle") {W : Nat} (hM : own_Met l y bytes maxL ret rm [] as' Z h rm.cells rm.slots Q) (hf : rm.frames + 1 ≤ R.frames) (hl : W + (maxL + 11) + rm.locals ≤ R.locals) (eT : T.heap = h)
    {g : JFrame} (hg : g.method = m) (hsize : g.locals.size = c.maxLocals) {argsL rest : List Value} (has : argsL.toArray = as') (hlen : ∀ sig, parseMethodDescriptor y.desc = some sig → argsL.length = sig.parameters.length)
    (hstack : g.stack = argsL.reverse ++ rest) (hW : 2 * g.monitorRoom + (rest.map fun v => v.category).sum ≤ W) (hdg : decode c.code g.pc = .ok (.invokestatic index, 3)) (hc : cells + rm.cells ≤ R.cells) (hs : slots + rm.slots ≤ R.slots) :
    ∃ (v : Option Value) (T' : State) (L' : List Loc), Stand p l e R s m args below meth c T' (locs ++ L') (cells + rm.cells) (slots + rm.slots) ∧ Q v T'.heap L' ∧
      ∀ t, Steps p.tables e below (T'.setTop { g with pc := g.pc + 3, stack := v.toList ++ rest }) t → Steps p.tables e below (T.setTop g) t := by
  obtain ⟨v, vm1, ⟨T', L, k, n⟩, -, X', ⟨L', hQ, e1, e2, e3⟩, st⟩ := Jvm.LawKit.callS X hx hown (mvT hZ w1) (mvT hZ w2) (mvT hZ w3) (mvT hZ w4) hy (backOf (W := W) hM hZ w4 w3 hf hl) hg hsize hlen hstack hW hdg (fun _ _ => ⟨has, eT, hc, hs⟩)
  dsimp only [Pt.U, Pt.locs, Pt.cells, Pt.slots] at X' e1 e2 e3 st hQ
  subst e1 e2 e3
  exact ⟨v, T', L', X', hQ, st⟩
theorem own_callC (X : Stand p l e R s m args below meth c T locs cells slots) (hx : p.tables.exec = Jvm.exec) (hZ : Z.Warmed39 s.vm) (hown : s.vm.findClass own = some m.cls) (hnm : y.name = "<init>") (w1 : (Jvm.Cond.methodLink own index y).before a0 Z = true) (w2 : (Jvm.Cond.instanceMethod y).before a0 Z = true) (w3 : (Jvm.Cond.initialized y.cls).before a0 Z = true) (w4 : (Jvm.Cond.code y bytes maxL none).before a0 Z = true)
    (hy : y.cls ≠ "java/lang/invoke/MethodHandle" ∧ y.cls ≠ "java/lang/invoke/VarHandle") {W : Nat} (hM : own_Met l y bytes maxL none rm [] as' Z h rm.cells rm.slots Q) (hf : rm.frames + 1 ≤ R.frames) (hl : W + (maxL + 11) + rm.locals ≤ R.locals) (eT : T.heap = h)
    {g : JFrame} (hg : g.method = m) (hsize : g.locals.size = c.maxLocals) {a : Addr} {argsL rest : List Value} (has : (.ref a :: argsL).toArray = as') (hlen : ∀ sig, parseMethodDescriptor y.desc = some sig → argsL.length = sig.parameters.length)
    (hstack : g.stack = argsL.reverse ++ .ref a :: rest) (hW : 2 * g.monitorRoom + (rest.map fun v => v.category).sum ≤ W) (hdg : decode c.code g.pc = .ok (.invokespecial index, 3)) (hc : cells + rm.cells ≤ R.cells) (hs : slots + rm.slots ≤ R.slots) :
    ∃ (v : Option Value) (T' : State) (L' : List Loc), Stand p l e R s m args below meth c T' (locs ++ L') (cells + rm.cells) (slots + rm.slots) ∧ Q v T'.heap L' ∧
      ∀ t, Steps p.tables e below (T'.setTop { g with pc := g.pc + 3, stack := v.toList ++ rest }) t → Steps p.tables e below (T.setTop g) t := by
  obtain ⟨v, vm1, ⟨T', L, k, n⟩, -, X', ⟨L', hQ, e1, e2, e3⟩, st⟩ := X.specialBack hx hnm hown (mvT hZ w1) (mvT hZ w2) (mvT hZ w4) hy (backOf (W := W) hM hZ w4 w3 hf hl) hg hsize (Steps.refl _) hlen hstack hW hdg (fun _ _ => ⟨has, eT, hc, hs⟩)
  dsimp only [Pt.U, Pt.locs, Pt.cells, Pt.slots] at X' e1 e2 e3 st hQ
  subst e1 e2 e3
  exact ⟨v, T', L', X', hQ, fun _ k => st.trans k⟩
theorem own_callV (X : Stand p l e R s m args below meth c T locs cells slots) (hx : p.tables.exec = Jvm.exec) (hZ : Z.Warmed39 s.vm) (hown : s.vm.findClass own = some m.cls) {D : String} (w1 : (Jvm.Cond.methodLink own index y).before a0 Z = true) (w2 : (Jvm.Cond.declares y).before a0 Z = true) (w3 : (Jvm.Cond.selects D y y).before a0 Z = true) (w4 : (Jvm.Cond.instanceMethod y).before a0 Z = true) (w5 : (Jvm.Cond.initialized y.cls).before a0 Z = true) (w6 : (Jvm.Cond.code y bytes maxL ret).before a0 Z = true)
    (hy : y.cls ≠ "java/lang/invoke/MethodHandle" ∧ y.cls ≠ "java/lang/invoke/VarHandle") {W : Nat} (hM : own_Met l y bytes maxL ret rm [] as' Z h rm.cells rm.slots Q) (hf : rm.frames + 1 ≤ R.frames) (hl : W + (maxL + 11) + rm.locals ≤ R.locals) (eT : T.heap = h) {a : Addr} (E : Exa Z h a D)
    {g : JFrame} (hg : g.method = m) (hsize : g.locals.size = c.maxLocals) {argsL rest : List Value} (has : (.ref a :: argsL).toArray = as') (hlen : ∀ sig, parseMethodDescriptor y.desc = some sig → argsL.length = sig.parameters.length)
    (hstack : g.stack = argsL.reverse ++ .ref a :: rest) (hW : 2 * g.monitorRoom + (rest.map fun v => v.category).sum ≤ W) (hdg : decode c.code g.pc = .ok (.invokevirtual index, 3)) (hc : cells + rm.cells ≤ R.cells) (hs : slots + rm.slots ≤ R.slots) :
    ∃ (v : Option Value) (T' : State) (L' : List Loc), Stand p l e R s m args below meth c T' (locs ++ L') (cells + rm.cells) (slots + rm.slots) ∧ Q v T'.heap L' ∧
      ∀ t, Steps p.tables e below (T'.setTop { g with pc := g.pc + 3, stack := v.toList ++ rest }) t → Steps p.tables e below (T.setTop g) t := by
  obtain ⟨cq, kq, qa, qb, qc⟩ := isOf hZ eT E
  obtain ⟨v, vm1, ⟨T', L, k, n⟩, -, X', ⟨L', hQ, e1, e2, e3⟩, st⟩ := X.virtualBack hx hown (mvT hZ w1) (mvT hZ w2) (notFace_of_selects (args := #[]) (mvT hZ w3)) (mvT hZ w3) (mvT hZ w4) hy (backOf (W := W) hM hZ w6 w5 hf hl) qa qc hg hsize (Steps.refl _) hlen hstack hW hdg (fun _ _ => ⟨has, eT, hc, hs⟩)
  dsimp only [Pt.U, Pt.locs, Pt.cells, Pt.slots] at X' e1 e2 e3 st hQ
  subst e1 e2 e3
  exact ⟨v, T', L', X', hQ, fun _ k => st.trans k⟩
/-- as own_callC, own_callV, where who pays is given -/
theorem own_callCB (X : Stand p l e R s m args below meth c T locs cells slots) (hx : p.tables.exec = Jvm.exec) (hZ : Z.Warmed39 s.vm) (hown : s.vm.findClass own = some m.cls) (hnm : y.name = "<init>") (w1 : (Jvm.Cond.methodLink own index y).before a0 Z = true) (w2 : (Jvm.Cond.instanceMethod y).before a0 Z = true) (w4 : (Jvm.Cond.code y bytes maxL none).before a0 Z = true)
    (hy : y.cls ≠ "java/lang/invoke/MethodHandle" ∧ y.cls ≠ "java/lang/invoke/VarHandle") {W kc kn : Nat} (hK : Back l R p e below s args y 3 W (fun P a => a = as' ∧ P.U.heap = h ∧ P.cells + kc ≤ R.cells ∧ P.slots + kn ≤ R.slots) (fun P _ v B => ∃ L, Q v B.U.heap L ∧ B.locs = P.locs ++ L ∧ B.cells = P.cells + kc ∧ B.slots = P.slots + kn)) (eT : T.heap = h)
    {g : JFrame} (hg : g.method = m) (hsize : g.locals.size = c.maxLocals) {a : Addr} {argsL rest : List Value} (has : (.ref a :: argsL).toArray = as') (hlen : ∀ sig, parseMethodDescriptor y.desc = some sig → argsL.length = sig.parameters.length)
    (hstack : g.stack = argsL.reverse ++ .ref a :: rest) (hW : 2 * g.monitorRoom + (rest.map fun v => v.category).sum ≤ W) (hdg : decode c.code g.pc = .ok (.invokespecial index, 3)) (hc : cells + kc ≤ R.cells) (hs : slots + kn ≤ R.slots) :
    ∃ (v : Option Value) (T' : State) (L' : List Loc), Stand p l e R s m args below meth c T' (locs ++ L') (cells + kc) (slots + kn) ∧ Q v T'.heap L' ∧
      ∀ t, Steps p.tables e below (T'.setTop { g with pc := g.pc + 3, stack := v.toList ++ rest }) t → Steps p.tables e below (T.setTop g) t := by
  obtain ⟨v, vm1, ⟨T', L, k, n⟩, -, X', ⟨L', hQ, e1, e2, e3⟩, st⟩ := X.specialBack hx hnm hown (mvT hZ w1) (mvT hZ w2) (mvT hZ w4) hy hK hg hsize (Steps.refl _) hlen hstack hW hdg (fun _ _ => ⟨has, eT, hc, hs⟩)
  dsimp only [Pt.U, Pt.locs, Pt.cells, Pt.slots] at X' e1 e2 e3 st hQ
  subst e1 e2 e3
  exact ⟨v, T', L', X', hQ, fun _ k => st.trans k⟩
theorem own_callVB (X : Stand p l e R s m args below meth c T locs cells slots) (hx : p.tables.exec = Jvm.exec) (hZ : Z.Warmed39 s.vm) (hown : s.vm.findClass own = some m.cls) {D : String} (w1 : (Jvm.Cond.methodLink own index y).before a0 Z = true) (w2 : (Jvm.Cond.declares y).before a0 Z = true) (w3 : (Jvm.Cond.selects D y y).before a0 Z = true) (w4 : (Jvm.Cond.instanceMethod y).before a0 Z = true)
    (hy : y.cls ≠ "java/lang/invoke/MethodHandle" ∧ y.cls ≠ "java/lang/invoke/VarHandle") {W kc kn : Nat} {Qb : Option Value → State → List Loc → Prop} (hK : Back l R p e below s args y 3 W (fun P a => a = as' ∧ P.U.heap = h ∧ P.cells + kc ≤ R.cells ∧ P.slots + kn ≤ R.slots) (fun P _ v B => ∃ L, Qb v B.U L ∧ B.locs = P.locs ++ L ∧ B.cells = P.cells + kc ∧ B.slots = P.slots + kn)) (eT : T.heap = h) {a : Addr} (E : Exa Z h a D)
    {g : JFrame} (hg : g.method = m) (hsize : g.locals.size = c.maxLocals) {argsL rest : List Value} (has : (.ref a :: argsL).toArray = as') (hlen : ∀ sig, parseMethodDescriptor y.desc = some sig → argsL.length = sig.parameters.length)
    (hstack : g.stack = argsL.reverse ++ .ref a :: rest) (hW : 2 * g.monitorRoom + (rest.map fun v => v.category).sum ≤ W) (hdg : decode c.code g.pc = .ok (.invokevirtual index, 3)) (hc : cells + kc ≤ R.cells) (hs : slots + kn ≤ R.slots) :
    ∃ (v : Option Value) (T' : State) (L' : List Loc), Stand p l e R s m args below meth c T' (locs ++ L') (cells + kc) (slots + kn) ∧ Qb v T' L' ∧
      ∀ t, Steps p.tables e below (T'.setTop { g with pc := g.pc + 3, stack := v.toList ++ rest }) t → Steps p.tables e below (T.setTop g) t := by
  obtain ⟨cq, kq, qa, qb, qc⟩ := isOf hZ eT E
  obtain ⟨v, vm1, ⟨T', L, k, n⟩, -, X', ⟨L', hQ, e1, e2, e3⟩, st⟩ := X.virtualBack hx hown (mvT hZ w1) (mvT hZ w2) (notFace_of_selects (args := #[]) (mvT hZ w3)) (mvT hZ w3) (mvT hZ w4) hy hK qa qc hg hsize (Steps.refl _) hlen hstack hW hdg (fun _ _ => ⟨has, eT, hc, hs⟩)
  dsimp only [Pt.U, Pt.locs, Pt.cells, Pt.slots] at X' e1 e2 e3 st hQ
  subst e1 e2 e3
  exact ⟨v, T', L', X', hQ, fun _ k => st.trans k⟩
end Calls
section Arrays
variable {a : Addr} {k : ClassId} {ty : FieldType} {z : Int32} {vs : List Value} {dv : Value}
theorem own_alen (X : Stand p l e R s m args below meth c T locs cells slots) (hx : p.tables.exec = Jvm.exec) (hZ : Z.Warmed39 s.vm) (eT : T.heap = h) (V : Arv Z h a k ty z vs dv) {g : JFrame} (hg : g.method = m) {rest : List Value} (hs : g.stack = .ref a :: rest) (hd : decode c.code g.pc = .ok (.arraylength, 1)) {target : State}
    (hr : Steps p.tables e below (T.setTop { g with pc := g.pc + 1, stack := .int z :: rest }) target) : Steps p.tables e below (T.setTop g) target := by
  obtain ⟨cl, Ar, -, S, M, -, -⟩ := V
  refine X.arraylength hx (cell := cl) (by rw [eT]; exact Ar.1) (State.isArrayOf_alike hZ.alike Ar.2.1) hg hs hd _ ?_
  rw [len_of S M]; exact hr
theorem own_aald {C : String} (X : Stand p l e R s m args below meth c T locs cells slots) (hx : p.tables.exec = Jvm.exec) (hZ : Z.Warmed39 s.vm) (eT : T.heap = h) (V : Arv Z h a k (.object C) z vs dv) {j : Int32} (h1 : ¬ j < 0) (h2 : j < z) {g : JFrame} (hg : g.method = m) {rest : List Value} (hs : g.stack = .int j :: .ref a :: rest) (hd : decode c.code g.pc = .ok (.aaload, 1)) {target : State}
    (hr : Steps p.tables e below (T.setTop { g with pc := g.pc + 1, stack := vs.getD j.toNatClampNeg dv :: rest }) target) : Steps p.tables e below (T.setTop g) target := by
  obtain ⟨cl, Ar, -, S, M, H, -⟩ := V
  have hin := inb_of S ⟨h1, h2⟩
  exact X.aaload hx (j := j) (v := vs.getD j.toNatClampNeg dv) (by rw [eT]; exact Ar.1) (State.isArrayOf_alike hZ.alike Ar.2.1) rfl Ar.2.2 hin (Has.at H hin rfl) hg hs hd _ hr
end Arrays
/-- a body that returns r and leaves the heap as it was -/
def own_QP (r : Option Value) (h0 : Heap) (n0 : Nat) (v : Option Value) (h : Heap) (L : List Loc) : Prop := v = r ∧ Fr n0 L ∧ h = h0
end OwnKit
section OwnWide
variable {p : Program} {l : Launch} {e : Env} {R : Room} {s : State} {m : MethodId} {args : Array Value} {below : List Frame} {meth : Method} {c : Code} {T : State} {locs : List Loc} {cells slots : Nat} {Z : State} {a0 : Array Value} {h h' : Heap} {vm0 vm1 : Vm} {k0 : Nat}
variable {Q : Option Value → Heap → Vm → List Loc → Prop} {C S : Nat}
def own_EndW (s : State) (Q : Option Value → Heap → Vm → List Loc → Prop) (C S : Nat) (o : Outcome) (U : State) : Prop := ∃ v L, o = .returned v ∧ Q v U.heap U.vm L ∧ ReturnedEndW s o U L C S
theorem own_monoW {o : Outcome} {t : State} {L : List Loc} {k n : Nat} (h : ReturnedEndW s o t L k n) (hk : k ≤ C) (hn : n ≤ S) : ReturnedEndW s o t L C S := ⟨h.1, h.2.1, h.2.2.1, h.2.2.2.mono hk hn⟩
theorem own_retIW (X : Stand p l e R (s.setVm vm0) m args below meth c T locs cells slots) (hx : p.tables.exec = Jvm.exec) (hlk : meth.locks = false) (hS : s.Since vm0 k0) (hk : k0 ≤ T.heap.size) {pc : Nat} {Ls : Array Slot} {z : Int32} {rest : List Value} (hret : meth.sig.returnType = some .int) (hd : decode c.code pc = .ok (.ireturn, 1)) (hq : Q (some (.int z)) T.heap T.vm locs) (hC : cells ≤ C) (hs : slots ≤ S) :
    own_Fin p.tables e below (own_EndW s Q C S) (T.setTop (mkF m pc Ls (.int z :: rest))) := by
  obtain ⟨fs, hr, hrun, hended, hE⟩ := leaveW X hS hk (v := some (.int z)) (fun h => by rw [hret] at h; cases h) hlk
  exact ⟨_, _, retOut X hx hret rfl (Or.inl ⟨rfl, Or.inl rfl, _, rfl⟩) hd hr, hrun, hended, _, _, rfl, hq, own_monoW hE hC hs⟩
theorem own_retNW (X : Stand p l e R (s.setVm vm0) m args below meth c T locs cells slots) (hx : p.tables.exec = Jvm.exec) (hlk : meth.locks = false) (hS : s.Since vm0 k0) (hk : k0 ≤ T.heap.size) {pc : Nat} {Ls : Array Slot} {z : Int32} {rest : List Value} {t : FieldType} (hret : meth.sig.returnType = some t) (ht : t = .boolean ∨ t = .byte ∨ t = .char ∨ t = .short) (hd : decode c.code pc = .ok (.ireturn, 1)) (hq : Q (some (.int (nar t z))) T.heap T.vm locs) (hC : cells ≤ C) (hs : slots ≤ S) :
    own_Fin p.tables e below (own_EndW s Q C S) (T.setTop (mkF m pc Ls (.int z :: rest))) := by
  obtain ⟨fs, hr, hrun, hended, hE⟩ := leaveW X hS hk (v := some (.int (nar t z))) (fun h => by rw [hret] at h; cases h) hlk
  exact ⟨_, _, retN X hx hret ht hd hr, hrun, hended, _, _, rfl, hq, own_monoW hE hC hs⟩
theorem own_retAW (X : Stand p l e R (s.setVm vm0) m args below meth c T locs cells slots) (hx : p.tables.exec = Jvm.exec) (hlk : meth.locks = false) (hS : s.Since vm0 k0) (hk : k0 ≤ T.heap.size) {pc : Nat} {Ls : Array Slot} {w : Value} {rest : List Value} {t : FieldType} (hret : meth.sig.returnType = some t) (ht : t.isReference = true) (hw : w.isRef = true) (hd : decode c.code pc = .ok (.areturn, 1)) (hq : Q (some w) T.heap T.vm locs) (hC : cells ≤ C) (hs : slots ≤ S) :
    own_Fin p.tables e below (own_EndW s Q C S) (T.setTop (mkF m pc Ls (w :: rest))) := by
  obtain ⟨fs, hr, hrun, hended, hE⟩ := leaveW X hS hk (v := some w) (fun h => by rw [hret] at h; cases h) hlk
  have hn : narrow t w = w := by cases t <;> first | (cases ht; done) | (cases w <;> first | (cases hw; done) | rfl)
  exact ⟨_, _, retOut X hx hret hn (Or.inr (Or.inr (Or.inr (Or.inr ⟨rfl, ht, hw⟩)))) hd hr, hrun, hended, _, _, rfl, hq, own_monoW hE hC hs⟩
theorem own_retVW (X : Stand p l e R (s.setVm vm0) m args below meth c T locs cells slots) (hx : p.tables.exec = Jvm.exec) (hlk : meth.locks = false) (hS : s.Since vm0 k0) (hk : k0 ≤ T.heap.size) {pc : Nat} {Ls : Array Slot} (hret : meth.sig.returnType = none) (hd : decode c.code pc = .ok (.return_, 1)) (hq : Q none T.heap T.vm locs) (hC : cells ≤ C) (hs : slots ≤ S) :
    own_Fin p.tables e below (own_EndW s Q C S) (T.setTop (mkF m pc Ls [])) := by
  obtain ⟨fs, hr, hrun, hended, hE⟩ := leaveW X hS hk (v := none) (fun _ => rfl) hlk
  exact ⟨_, _, X.returnOut hx hret hd hr, hrun, hended, _, _, rfl, hq, own_monoW hE hC hs⟩
/-- a contract of a body that may load the literal: P is asked of the tables at its start -/
def own_MetW (l : Launch) (y : MethodName) (bytes : ByteArray) (maxL : Nat) (ret : Option FieldType) (rm : Room) (ws : List Jvm.Cond) (as' : Array Value) (Z : State) (h0 : Heap) (P : Vm → Prop) (C S : Nat) (Q : Option Value → Heap → Vm → List Loc → Prop) : Prop :=
  MetFree l y (head1 (Jvm.Cond.code y bytes maxL ret :: ws) rm) (fun a U => a = as' ∧ Z.Warmed39 U.vm ∧ U.heap = h0 ∧ P U.vm) (fun _ _ _ _ _ => True) (fun _ U o U' => ∃ v L, o = .returned v ∧ Q v U'.heap U'.vm L ∧ ReturnedEndW U o U' L C S)
theorem own_metW {y : MethodName} {bytes : ByteArray} {maxL : Nat} {ret : Option FieldType} {rm : Room} {ws : List Jvm.Cond} {as' : Array Value} {h0 : Heap} {P : Vm → Prop} (hy : plainFor y = true)
    (body : ∀ (p : Program) (e : Env) (s : State) (m : MethodId) (below : List Frame) (meth : Method) (c : Code) (s₁ : State), p.tables.exec = Jvm.exec → c.code = bytes → c.maxLocals = maxL → (s.setVm s.vm).vm.findClass y.cls = some m.cls → meth.name = y.name → meth.sig.returnType = ret → meth.locks = false → Z.Warmed39 (s.setVm s.vm).vm → s.heap = h0 → s₁.heap = h0 → P s.vm → s.Since s.vm 0 → Stand p l e rm (s.setVm s.vm) m as' below meth c s₁ [] 0 0 → own_Fin p.tables e below (own_EndW s Q C S) (s₁.setTop (entryFrame m as' maxL))) :
    own_MetW l y bytes maxL ret rm ws as' Z h0 P C S Q := by
  refine MetFree.of_bodySF hy hisR ?_
  intro p e s m args below meth c s₁ Bd hml0 hP hK
  obtain ⟨rfl, hZ, hh, hP⟩ := hP
  have X0 : Stand p l e rm s m args below meth c s₁ [] 0 0 := Stand.of_body Bd
  exact body p e s m below meth c s₁ Bd.exec Bd.bytes hml0 (findClass_of_methodNamed Bd.named) (name_of_methodNamed Bd.named Bd.method).1 Bd.returns Bd.notSynchronized hZ hh (by rw [← hh, Bd.state]; rfl) hP (State.WarmedH.since (State.WarmedH.refl s) 0) X0
section CallsW
variable {own : String} {index : Nat} {y : MethodName} {bytes : ByteArray} {maxL : Nat} {ret : Option FieldType} {rm : Room} {as' : Array Value} {P : Vm → Prop} {W : Nat}
theorem own_backW (hM : own_MetW l y bytes maxL ret rm [] as' Z h P rm.cells rm.slots Q) (hZ : Z.Warmed39 s.vm) (hP : ∀ vm, s.WarmedH vm → P vm) (wc : (Jvm.Cond.code y bytes maxL ret).before a0 Z = true) (wz : (Jvm.Cond.initialized y.cls).before a0 Z = true) (hf : rm.frames + 1 ≤ R.frames) (hl : W + (maxL + 11) + rm.locals ≤ R.locals) :
    BackS l R p e below s args y 3 W (fun A a => a = as' ∧ A.U.heap = h ∧ A.cells + rm.cells ≤ R.cells ∧ A.slots + rm.slots ≤ R.slots) (fun A _ v B => ∃ L, Q v B.U.heap B.U.vm L ∧ B.locs = A.locs ++ L ∧ B.cells = A.cells + rm.cells ∧ B.slots = A.slots + rm.slots) := by
  refine BackS.of_freeW (bytes := bytes) (maxL := maxL) (ret := ret) (E := fun _ _ o t L k n => k = rm.cells ∧ n = rm.slots ∧ ∃ v, o = .returned v ∧ Q v t.heap t.vm L) hM hf hl ?_ ?_ ?_ ?_ ?_
  · intro m meth c A a Y hp
    have hU : Z.Warmed39 A.U.vm := wtrans hZ Y.warmed
    refine ⟨?_, mv hU wc, mv hU wz, hp.2.2.1, hp.2.2.2⟩
    show (Jvm.Cond.and _ .tt).before a A.U = true
    rw [Cond.before_and, mv hU wc]; rfl
  · intro m meth c A a g mk Y hp
    exact ⟨hp.1, wtrans hZ Y.warmed, hp.2.1, hP _ Y.warmed⟩
  · intro m meth c A a g mk Y hp
    trivial
  · rintro a U o t ⟨v, L, h1, h2, h3⟩
    exact ⟨L, _, _, h3, rfl, rfl, v, h1, h2⟩
  · rintro m meth c A a g mk v t L k n Y hp - - ⟨rfl, rfl, v', e3, e4⟩
    cases e3
    exact ⟨L, e4, rfl, rfl, rfl⟩
theorem own_callSW (X : Stand p l e R (s.setVm vm0) m args below meth c T locs cells slots) (hx : p.tables.exec = Jvm.exec) (hZ : Z.Warmed39 (s.setVm vm0).vm) (hS : s.Since vm0 k0) (hk : k0 ≤ T.heap.size) (hown : (s.setVm vm0).vm.findClass own = some m.cls) (w1 : (Jvm.Cond.methodLink own index y).before a0 Z = true) (w2 : (Jvm.Cond.static y).before a0 Z = true) (w3 : (Jvm.Cond.initialized y.cls).before a0 Z = true) (w4 : (Jvm.Cond.code y bytes maxL ret).before a0 Z = true)
    (hy : y.cls ≠ "java/lang/invoke/MethodHandle" ∧ y.cls ≠ "java/lang/invoke/VarHandle") (hM : own_MetW l y bytes maxL ret rm [] as' Z h P rm.cells rm.slots Q) (hP : ∀ vm, (s.setVm vm0).WarmedH vm → P vm) (hf : rm.frames + 1 ≤ R.frames) (hl : W + (maxL + 11) + rm.locals ≤ R.locals) (eT : T.heap = h)
    {g : JFrame} (hg : g.method = m) (hsize : g.locals.size = c.maxLocals) {argsL rest : List Value} (has : argsL.toArray = as') (hlen : ∀ sig, parseMethodDescriptor y.desc = some sig → argsL.length = sig.parameters.length)
    (hstack : g.stack = argsL.reverse ++ rest) (hW : 2 * g.monitorRoom + (rest.map fun v => v.category).sum ≤ W) (hdg : decode c.code g.pc = .ok (.invokestatic index, 3)) (hc : cells + rm.cells ≤ R.cells) (hs : slots + rm.slots ≤ R.slots) :
    ∃ (v : Option Value) (T' : State) (L' : List Loc), Stand p l e R (s.setVm T'.vm) m args below meth c T' (locs ++ L') (cells + rm.cells) (slots + rm.slots) ∧ Z.Warmed39 (s.setVm T'.vm).vm ∧ s.Since T'.vm T'.heap.size ∧ (s.setVm T'.vm).vm.findClass own = some m.cls ∧ Q v T'.heap T'.vm L' ∧
      ∀ t, Steps p.tables e below (T'.setTop { g with pc := g.pc + 3, stack := v.toList ++ rest }) t → Steps p.tables e below (T.setTop g) t := by
  obtain ⟨v, vm1, ⟨T', L, k, n⟩, -, X', hS', hgr, ⟨L', hQ, e1, e2, e3⟩, st⟩ := callSS X hx hown (mvT hZ w1) (mvT hZ w2) (mvT hZ w3) (mvT hZ w4) hy (own_backW (W := W) hM hZ hP w4 w3 hf hl) hg hsize hlen hstack hW hdg (fun _ _ => ⟨has, eT, hc, hs⟩)
  dsimp only [Pt.U, Pt.locs, Pt.cells, Pt.slots] at X' e1 e2 e3 st hQ hS' hgr
  subst e1 e2 e3
  exact ⟨v, T', L', X', State.Warmed39.trans (t := s.setVm vm0) hZ hS'.1, hS.trans hS' (Nat.le_trans hk hgr), by rw [show (s.setVm T'.vm).vm = T'.vm from rfl, hS'.1.alike.findClass]; exact hown, hQ, fun _ k => st.trans k⟩
theorem own_callCW (X : Stand p l e R (s.setVm vm0) m args below meth c T locs cells slots) (hx : p.tables.exec = Jvm.exec) (hZ : Z.Warmed39 (s.setVm vm0).vm) (hS : s.Since vm0 k0) (hk : k0 ≤ T.heap.size) (hown : (s.setVm vm0).vm.findClass own = some m.cls) (hnm : y.name = "<init>") (w1 : (Jvm.Cond.methodLink own index y).before a0 Z = true) (w2 : (Jvm.Cond.instanceMethod y).before a0 Z = true) (w3 : (Jvm.Cond.initialized y.cls).before a0 Z = true) (w4 : (Jvm.Cond.code y bytes maxL none).before a0 Z = true)
    (hy : y.cls ≠ "java/lang/invoke/MethodHandle" ∧ y.cls ≠ "java/lang/invoke/VarHandle") (hM : own_MetW l y bytes maxL none rm [] as' Z h P rm.cells rm.slots Q) (hP : ∀ vm, (s.setVm vm0).WarmedH vm → P vm) (hf : rm.frames + 1 ≤ R.frames) (hl : W + (maxL + 11) + rm.locals ≤ R.locals) (eT : T.heap = h)
    {g : JFrame} (hg : g.method = m) (hsize : g.locals.size = c.maxLocals) {a : Addr} {argsL rest : List Value} (has : (.ref a :: argsL).toArray = as') (hlen : ∀ sig, parseMethodDescriptor y.desc = some sig → argsL.length = sig.parameters.length)
    (hstack : g.stack = argsL.reverse ++ .ref a :: rest) (hW : 2 * g.monitorRoom + (rest.map fun v => v.category).sum ≤ W) (hdg : decode c.code g.pc = .ok (.invokespecial index, 3)) (hc : cells + rm.cells ≤ R.cells) (hs : slots + rm.slots ≤ R.slots) :
    ∃ (v : Option Value) (T' : State) (L' : List Loc), Stand p l e R (s.setVm T'.vm) m args below meth c T' (locs ++ L') (cells + rm.cells) (slots + rm.slots) ∧ Z.Warmed39 (s.setVm T'.vm).vm ∧ s.Since T'.vm T'.heap.size ∧ (s.setVm T'.vm).vm.findClass own = some m.cls ∧ Q v T'.heap T'.vm L' ∧
      ∀ t, Steps p.tables e below (T'.setTop { g with pc := g.pc + 3, stack := v.toList ++ rest }) t → Steps p.tables e below (T.setTop g) t := by
  obtain ⟨v, vm1, ⟨T', L, k, n⟩, -, X', hS', hgr, ⟨L', hQ, e1, e2, e3⟩, st⟩ := X.specialBackS hx hnm hown (mvT hZ w1) (mvT hZ w2) (mvT hZ w4) hy (own_backW (W := W) hM hZ hP w4 w3 hf hl) hg hsize (Steps.refl _) hlen hstack hW hdg (fun _ _ => ⟨has, eT, hc, hs⟩)
  dsimp only [Pt.U, Pt.locs, Pt.cells, Pt.slots] at X' e1 e2 e3 st hQ hS' hgr
  subst e1 e2 e3
  exact ⟨v, T', L', X', State.Warmed39.trans (t := s.setVm vm0) hZ hS'.1, hS.trans hS' (Nat.le_trans hk hgr), by rw [show (s.setVm T'.vm).vm = T'.vm from rfl, hS'.1.alike.findClass]; exact hown, hQ, fun _ k => st.trans k⟩
theorem own_callVW {C : String} (X : Stand p l e R (s.setVm vm0) m args below meth c T locs cells slots) (hx : p.tables.exec = Jvm.exec) (hZ : Z.Warmed39 (s.setVm vm0).vm) (hS : s.Since vm0 k0) (hk : k0 ≤ T.heap.size) (hown : (s.setVm vm0).vm.findClass own = some m.cls) (w1 : (Jvm.Cond.methodLink own index y).before a0 Z = true) (w2 : (Jvm.Cond.declares y).before a0 Z = true) (w3 : (Jvm.Cond.selects C y y).before a0 Z = true) (w4 : (Jvm.Cond.instanceMethod y).before a0 Z = true) (w5 : (Jvm.Cond.initialized y.cls).before a0 Z = true) (w6 : (Jvm.Cond.code y bytes maxL ret).before a0 Z = true)
    (hy : y.cls ≠ "java/lang/invoke/MethodHandle" ∧ y.cls ≠ "java/lang/invoke/VarHandle") (hM : own_MetW l y bytes maxL ret rm [] as' Z h P rm.cells rm.slots Q) (hP : ∀ vm, (s.setVm vm0).WarmedH vm → P vm) (hf : rm.frames + 1 ≤ R.frames) (hl : W + (maxL + 11) + rm.locals ≤ R.locals) (eT : T.heap = h) {a : Addr} (E : Exa Z h a C)
    {g : JFrame} (hg : g.method = m) (hsize : g.locals.size = c.maxLocals) {argsL rest : List Value} (has : (.ref a :: argsL).toArray = as') (hlen : ∀ sig, parseMethodDescriptor y.desc = some sig → argsL.length = sig.parameters.length)
    (hstack : g.stack = argsL.reverse ++ .ref a :: rest) (hW : 2 * g.monitorRoom + (rest.map fun v => v.category).sum ≤ W) (hdg : decode c.code g.pc = .ok (.invokevirtual index, 3)) (hc : cells + rm.cells ≤ R.cells) (hs : slots + rm.slots ≤ R.slots) :
    ∃ (v : Option Value) (T' : State) (L' : List Loc), Stand p l e R (s.setVm T'.vm) m args below meth c T' (locs ++ L') (cells + rm.cells) (slots + rm.slots) ∧ Z.Warmed39 (s.setVm T'.vm).vm ∧ s.Since T'.vm T'.heap.size ∧ (s.setVm T'.vm).vm.findClass own = some m.cls ∧ Q v T'.heap T'.vm L' ∧
      ∀ t, Steps p.tables e below (T'.setTop { g with pc := g.pc + 3, stack := v.toList ++ rest }) t → Steps p.tables e below (T.setTop g) t := by
  obtain ⟨cq, kq, qa, qb, qc⟩ := isOf hZ eT E
  obtain ⟨v, vm1, ⟨T', L, k, n⟩, -, X', hS', hgr, ⟨L', hQ, e1, e2, e3⟩, st⟩ := X.virtualBackS hx hown (mvT hZ w1) (mvT hZ w2) (notFace_of_selects (args := #[]) (mvT hZ w3)) (mvT hZ w3) (mvT hZ w4) hy (own_backW (W := W) hM hZ hP w6 w5 hf hl) qa qc hg hsize (Steps.refl _) hlen hstack hW hdg (fun _ _ => ⟨has, eT, hc, hs⟩)
  dsimp only [Pt.U, Pt.locs, Pt.cells, Pt.slots] at X' e1 e2 e3 st hQ hS' hgr
  subst e1 e2 e3
  exact ⟨v, T', L', X', State.Warmed39.trans (t := s.setVm vm0) hZ hS'.1, hS.trans hS' (Nat.le_trans hk hgr), by rw [show (s.setVm T'.vm).vm = T'.vm from rfl, hS'.1.alike.findClass]; exact hown, hQ, fun _ k => st.trans k⟩
end CallsW
theorem own_join (X : Stand p l e R (s.setVm vm0) m args below meth c T locs cells slots) (hZ : Z.Warmed39 (s.setVm vm0).vm) (hS : s.Since vm0 k0) (hk : k0 ≤ T.heap.size) {own : String} (hown : (s.setVm vm0).vm.findClass own = some m.cls) {C' S' : Nat} (hc : cells ≤ C') (hs : slots ≤ S') :
    Stand p l e R (s.setVm T.vm) m args below meth c T locs C' S' ∧ Z.Warmed39 (s.setVm T.vm).vm ∧ s.Since T.vm T.heap.size ∧ (s.setVm T.vm).vm.findClass own = some m.cls := by
  have hW := X.warmed
  refine ⟨Jvm.Stand.wide (X.retabled hW.wide) (fun _ q _ => q) hc hs, wtrans hZ hW, hS.trans (hW.since _) hk, ?_⟩
  rw [show (s.setVm T.vm).vm = T.vm from rfl, hW.alike.findClass]; exact hown
end OwnWide
section OwnStr
variable {Z : State} {h h' : Heap} {vm0 vm1 : Vm} {s : State} {x a : Addr} {cs : List Int32} {B B' : Nat} {a0 : Array Value} {C : String} {kk : Nat}
def own_Chr (cs : List Int32) : Prop := (∀ c ∈ cs, ¬ c < 0 ∧ ¬ (255 : Int32) < c) ∧ cs.length ≤ 4000
/-- x is a String of the chars cs (each 0 to 255); it and its bytes lie below B -/
def own_Str (Z : State) (h : Heap) (x : Addr) (cs : List Int32) (B : Nat) : Prop := Exa Z h x "java/lang/String" ∧ own_Chr cs ∧ x < B ∧ ∃ (t : Addr) (kb : ClassId), t < B ∧ Fld Z h x "java/lang/String" "coder" "B" (.int 0) ∧ Fld Z h x "java/lang/String" "value" "[B" (.ref t) ∧ Arv Z h t kb .byte (Int32.ofNat cs.length) ((cs.map (fun c => c.toInt8.toInt32)).map Value.int) (.int 0)
theorem own_Str.mono (H : own_Str Z h x cs B) (q : B ≤ B') : own_Str Z h x cs B' := by
  obtain ⟨h1, hc, h2, t, kb, h3, r⟩ := H
  exact ⟨h1, hc, Nat.lt_of_lt_of_le h2 q, t, kb, Nat.lt_of_lt_of_le h3 q, r⟩
theorem own_Str.ext (H : own_Str Z h x cs B) (E : Ext h h') : own_Str Z h' x cs B := by
  obtain ⟨h1, hc, h2, t, kb, h3, h4, h5, h6⟩ := H
  exact ⟨h1.ext E, hc, h2, t, kb, h3, h4.ext E, h5.ext E, h6.ext E⟩
theorem own_Str.keep0 (H : own_Str Z h x cs B) (K : Keep h h' []) : own_Str Z h' x cs B := by
  obtain ⟨h1, hc, h2, t, kb, h3, h4, h5, h6⟩ := H
  exact ⟨h1.keep K, hc, h2, t, kb, h3, h4.keep K nin0, h5.keep K nin0, h6.keep K nin0⟩
theorem own_Str.keepB (H : own_Str Z h x cs B) (K : Keep h h' [a]) (q : B ≤ a) : own_Str Z h' x cs B := by
  obtain ⟨h1, hc, h2, t, kb, h3, h4, h5, h6⟩ := H
  have n1 : x ≠ a := Nat.ne_of_lt (Nat.lt_of_lt_of_le h2 q)
  have n2 : t ≠ a := Nat.ne_of_lt (Nat.lt_of_lt_of_le h3 q)
  exact ⟨h1.keep K, hc, h2, t, kb, h3, h4.keep K (ninS n1 nin0), h5.keep K (ninS n1 nin0), h6.keep K (ninS n2 nin0)⟩
theorem own_Str.keepC (H : own_Str Z h x cs B) (K : Keep h h' [a]) (E : Exa Z h a C) (hC : C ≠ "java/lang/String") (w : (Jvm.Cond.instantiable C kk).before a0 Z = true) : own_Str Z h' x cs B := by
  obtain ⟨h1, hc, h2, t, kb, h3, h4, h5, h6⟩ := H
  have n1 : x ≠ a := fun q => Exa.ne E h1 hC q.symm
  have n2 : t ≠ a := fun q => Exa.neArv E h6 w q.symm
  exact ⟨h1.keep K, hc, h2, t, kb, h3, h4.keep K (ninS n1 nin0), h5.keep K (ninS n1 nin0), h6.keep K (ninS n2 nin0)⟩
/-- the literals of own_lits (class, entry, text, chars): each not loaded by this walk, or booked and known -/
def own_LO (Z : State) (vm : Vm) (h : Heap) (B : Nat) : Prop := ∃ Ts : List String, IB Z vm Ts ∧ ∀ q ∈ own_lits, q.2.2.1 ∉ Ts ∨ ∃ a : Addr, Lit (Z.setVm vm) q.1 q.2.1 a ∧ own_Str Z h a q.2.2.2 B
theorem own_LO.map (H : own_LO Z vm0 h B) (f : ∀ b cs, own_Str Z h b cs B → own_Str Z h' b cs B') : own_LO Z vm0 h' B' := by
  obtain ⟨Ts, I, H⟩ := H
  exact ⟨Ts, I, fun q hq => (H q hq).imp id fun ⟨b, h1, h2⟩ => ⟨b, h1, f _ _ h2⟩⟩
theorem own_LO.mono (H : own_LO Z vm0 h B) (q : B ≤ B') : own_LO Z vm0 h B' := H.map fun _ _ k => k.mono q
theorem own_LO.ext (H : own_LO Z vm0 h B) (E : Ext h h') : own_LO Z vm0 h' B := H.map fun _ _ k => k.ext E
theorem own_LO.keep0 (H : own_LO Z vm0 h B) (K : Keep h h' []) : own_LO Z vm0 h' B := H.map fun _ _ k => k.keep0 K
theorem own_LO.keepB (H : own_LO Z vm0 h B) (K : Keep h h' [a]) (q : B ≤ a) : own_LO Z vm0 h' B := H.map fun _ _ k => k.keepB K q
theorem own_LO.keepC (H : own_LO Z vm0 h B) (K : Keep h h' [a]) (E : Exa Z h a C) (hC : C ≠ "java/lang/String") (w : (Jvm.Cond.instantiable C kk).before a0 Z = true) : own_LO Z vm0 h' B := H.map fun _ _ k => k.keepC K E hC w
theorem own_LO.warm (H : own_LO Z vm0 h B) (hW : (s.setVm vm0).WarmedH vm1) : own_LO Z vm1 h B := by
  obtain ⟨Ts, ⟨more, q1, q2⟩, H⟩ := H
  refine ⟨Ts, ⟨more, by rw [hW.interned_eq]; exact q1, q2⟩, fun q hq => (H q hq).imp id ?_⟩
  rintro ⟨b, h1, h2⟩
  have h1' : Lit (s.setVm vm0) q.1 q.2.1 b := h1
  exact ⟨b, Lit.stays h1' hW.wide, h2⟩
theorem own_Chr_nil : own_Chr [] := ⟨fun c hc => (nomatch hc), Nat.zero_le _⟩
def own_eq (cs ds : List Int32) : Int32 := if cs = ds then 1 else 0
theorem own_eq_of {v : Option Value} {cs ds : List Int32} (h : (v = some (.int 1) ∧ cs = ds) ∨ (v = some (.int 0) ∧ ¬ cs = ds)) : v = some (.int (own_eq cs ds)) := by
  unfold own_eq
  rcases h with ⟨h1, h2⟩ | ⟨h1, h2⟩
  · rw [if_pos h2]; exact h1
  · rw [if_neg h2]; exact h1
end OwnStr
section OwnLoad
variable {p : Program} {l : Launch} {e : Env} {R : Room} {s : State} {m : MethodId} {args : Array Value} {below : List Frame} {meth : Method} {c : Code} {T : State} {locs : List Loc} {cells slots : Nat} {Z : State} {a0 : Array Value} {h : Heap} {vm0 : Vm} {k0 B : Nat} {own text : String} {index : Nat} {cs : List Int32}
theorem own_load (X : Stand p l e R (s.setVm vm0) m args below meth c T locs cells slots) (hx : p.tables.exec = Jvm.exec) (hZ : Z.Warmed39 (s.setVm vm0).vm) (hS : s.Since vm0 k0) (hk : k0 ≤ T.heap.size) (hown : (s.setVm vm0).vm.findClass own = some m.cls) (w : (Jvm.Cond.stringLink own index text).before a0 Z = true) (wS : ∀ d ∈ Bundle.stringAtoms, d.before a0 Z = true)
    (eT : T.heap = h) (N : Fr s.heap.size locs) (hkeep : ∀ (b : Addr) (cl : Cell), Z.heap[b]? = some cl → s.heap[b]? = some cl) (LO : own_LO Z vm0 h h.size) (hq : (own, index, text, cs) ∈ own_lits) (hd1 : ∀ q ∈ own_lits, q.2.2.1 = text → q = (own, index, text, cs)) (hh : Jvm.Lit.constHeld Z own index) (hcw : Jvm.Lit.compactW.before a0 Z = true)
    (ht : (∀ c ∈ text.toList, c.toNat < 256) ∧ text.toList.map (fun c => Value.int (Jvm.Lit.byteI c.toNat.toUInt16)) = ((cs.map (fun c => c.toInt8.toInt32)).map Value.int)) (hc : own_Chr cs)
    {g : JFrame} (hg : g.method = m) (hd : decode c.code g.pc = .ok (.ldc index, 2)) {n : Nat} (hn : 4 * text.toList.length ≤ n) (hbig : n ≤ 536870912) (hcl : cells + 2 ≤ R.cells) (hsl : slots + (n + 4) ≤ R.slots) :
    ∃ (a : Addr) (T' : State) (h' : Heap), Stand p l e R (s.setVm T'.vm) m args below meth c T' locs (cells + 2) (slots + (n + 4)) ∧ T'.heap = h' ∧ Ext h h' ∧ s.Since T'.vm h'.size ∧ Z.Warmed39 (s.setVm T'.vm).vm ∧ (s.setVm T'.vm).vm.findClass own = some m.cls ∧ own_Str Z h' a cs h'.size ∧ own_LO Z T'.vm h' h'.size ∧ Lit (s.setVm T'.vm) own index a ∧
      ∀ t, Steps p.tables e below (T'.setTop { g with pc := g.pc + 2, stack := .ref a :: g.stack }) t → Steps p.tables e below (T.setTop g) t := by
  have hlen : (Int32.ofNat cs.length).toInt = cs.length := Int32.toInt_ofNat_small (by have := hc.2; omega)
  have hz : ¬ Int32.ofNat cs.length < 0 := by rw [XT.negI32, hlen]; omega
  have hl : (Int32.ofNat cs.length).toNatClampNeg = ((cs.map (fun c => c.toInt8.toInt32)).map Value.int).length := by
    have q := nat_of hz
    rw [hlen] at q
    rw [List.length_map, List.length_map]; omega
  obtain ⟨Ts, I, H⟩ := LO
  rcases H _ hq with hnot | ⟨a, L, S⟩
  · have X1 : Stand p l e R ((s.setVm vm0).setVm vm0) m args below meth c T locs cells slots := X
    have hS0 : (s.setVm vm0).Since vm0 0 := State.WarmedH.since (State.WarmedH.refl (s.setVm vm0)) 0
    obtain ⟨a, T', h', k1, b, kb, X', e', E, hS', hk', hZ', ho', Ea, Ca, Va, Aa, la, lb, I', L', st⟩ := ldcSVL (s := s.setVm vm0) X1 hx hZ hown w wS eT hS0 (Nat.zero_le _) N hkeep I hnot hh hcw (z := Int32.ofNat cs.length) ht hz hl hg hd hn hbig hcl hsl
    have S' : own_Str Z h' a cs h'.size := ⟨Ea, hc, la, b, kb, lb, Ca, Va, Aa⟩
    have hS2 : (s.setVm vm0).Since T'.vm h'.size := ⟨hS'.1, fun j q a b => ⟨(hS'.2 j q a b).1, Nat.lt_of_lt_of_le (hS'.2 j q a b).2 hk'⟩⟩
    refine ⟨a, T', h', X', e', E, hS.trans hS2 (Nat.le_trans (by rw [← eT]; exact hk) E.1), hZ', ho', S', ⟨text :: Ts, I', fun q hq' => ?_⟩, L', st⟩
    by_cases e1 : q.2.2.1 = text
    · rw [hd1 q hq' e1]
      exact Or.inr ⟨a, L', S'⟩
    · rcases H q hq' with hn1 | ⟨b1, L1, S1⟩
      · exact Or.inl fun z => (List.mem_cons.mp z).elim e1 hn1
      · have L2 : Lit (s.setVm vm0) q.1 q.2.1 b1 := L1
        exact Or.inr ⟨b1, Lit.stays L2 hS'.1, (S1.ext E).mono E.1⟩
  · have hW := X.warmed
    have L2 : Lit (s.setVm vm0) own index a := L
    have st := ldcAgain X hx hZ hown w L2 hg hd
    have LO2 : own_LO Z vm0 h h.size := ⟨Ts, I, H⟩
    refine ⟨a, T, h, Jvm.Stand.wide (X.retabled hW.wide) (fun _ q _ => q) (Nat.le_add_right _ _) (Nat.le_add_right _ _), eT, ⟨Nat.le_refl _, fun _ _ q => q⟩, hS.trans (hW.since _) (by rw [← eT]; exact hk), wtrans hZ hW, ?_, S, LO2.warm hW, Lit.stays L2 hW.wide, st⟩
    rw [show (s.setVm T.vm).vm = T.vm from rfl, hW.alike.findClass]; exact hown
end OwnLoad
theorem own_narc (c : Int32) (h : ¬ c < 0 ∧ ¬ (255 : Int32) < c) : nar .char c = c := by
  have h1 : 0 ≤ c.toInt := by have := h.1; rw [XT.negI32] at this; omega
  have h2 : c.toInt ≤ 255 := by
    have := h.2; rw [Int32.lt_iff_toInt_lt] at this
    have h5 : (255 : Int32).toInt = 255 := by decide
    omega
  show c.toUInt32.toUInt16.toUInt32.toInt32 = c
  apply Int32.toInt_inj.mp
  have hb : c.toInt = (c.toBitVec.toNat : Int).bmod (2 ^ 32) := BitVec.toInt_eq_toNat_bmod c.toBitVec
  have hn := c.toBitVec.isLt
  have e1 : c.toBitVec.toNat < 256 := by
    rw [hb, Int.bmod_def] at h1 h2
    split at h1 <;> omega
  have e2 : (c.toUInt32.toUInt16.toUInt32.toInt32).toBitVec.toNat = c.toBitVec.toNat % 65536 := rfl
  have hb2 : (c.toUInt32.toUInt16.toUInt32.toInt32).toInt = (((c.toUInt32.toUInt16.toUInt32.toInt32).toBitVec.toNat : Nat) : Int).bmod (2 ^ 32) := BitVec.toInt_eq_toNat_bmod _
  rw [hb2, hb, e2, Nat.mod_eq_of_lt (by omega)]
theorem own_b255 (i : Int32) : ¬ (i &&& (255 : Int32)) < 0 ∧ ¬ (255 : Int32) < (i &&& 255) := by
  rw [XT.negI32, Int32.lt_iff_toInt_lt]
  have hm : (i &&& 255).toInt = i.toInt % (2 ^ 8 : Nat) := c_mask i 255 8 (by decide) (by decide)
  have h5 : (255 : Int32).toInt = 255 := by decide
  rw [h5, hm]; omega
theorem own_i2c (i : Int32) : (i &&& (255 : Int32)).toUInt32.toUInt16.toUInt32.toInt32 = i &&& 255 := own_narc _ (own_b255 i)
theorem own_up {cs : List Int32} (h : ∀ c ∈ cs, ¬ c < 0 ∧ ¬ (255 : Int32) < c) : ∀ c ∈ cs, ¬ c < 0 ∧ ¬ (65535 : Int32) < c := fun c hc => by
  refine ⟨(h c hc).1, fun q => (h c hc).2 ?_⟩
  rw [Int32.lt_iff_toInt_lt] at *
  have h1 : (65535 : Int32).toInt = 65535 := by decide
  have h2 : (255 : Int32).toInt = 255 := by decide
  omega
theorem d1_0 : decode method_3_code 0 = .ok (.iload_n 0, 1) := by decide +kernel
theorem d1_1 : decode method_3_code 1 = .ok (.sipush 255, 3) := by decide +kernel
theorem d1_4 : decode method_3_code 4 = .ok (.iand, 1) := by decide +kernel
theorem d1_5 : decode method_3_code 5 = .ok (.istore_n 1, 1) := by decide +kernel
theorem d1_6 : decode method_3_code 6 = .ok (.iload_n 1, 1) := by decide +kernel
theorem d1_7 : decode method_3_code 7 = .ok (.sipush 128, 3) := by decide +kernel
theorem d1_10 : decode method_3_code 10 = .ok (.iand, 1) := by decide +kernel
theorem d1_11 : decode method_3_code 11 = .ok (.ifCond .ne 17, 3) := by decide +kernel
theorem d1_14 : decode method_3_code 14 = .ok (.iload_n 1, 1) := by decide +kernel
theorem d1_15 : decode method_3_code 15 = .ok (.iconst 1, 1) := by decide +kernel
theorem d1_16 : decode method_3_code 16 = .ok (.iand, 1) := by decide +kernel
theorem d1_17 : decode method_3_code 17 = .ok (.ifCond .ne 8, 3) := by decide +kernel
theorem d1_20 : decode method_3_code 20 = .ok (.bipush 42, 2) := by decide +kernel
theorem d1_22 : decode method_3_code 22 = .ok (.goto 5, 3) := by decide +kernel
theorem d1_25 : decode method_3_code 25 = .ok (.bipush 97, 2) := by decide +kernel
theorem d1_27 : decode method_3_code 27 = .ok (.ireturn, 1) := by decide +kernel
theorem d1_28 : decode method_3_code 28 = .ok (.iload_n 1, 1) := by decide +kernel
theorem d1_29 : decode method_3_code 29 = .ok (.bipush 127, 2) := by decide +kernel
theorem d1_31 : decode method_3_code 31 = .ok (.iand, 1) := by decide +kernel
theorem d1_32 : decode method_3_code 32 = .ok (.i2c, 1) := by decide +kernel
theorem d1_33 : decode method_3_code 33 = .ok (.ireturn, 1) := by decide +kernel
theorem pn0 : plainName "com/example/grantline/grantline/eval/OwnerCoversPinLaw" = true := by first | (simp [plainName, overriddenIn]; done) | decide +kernel
theorem pd0 : parseMethodDescriptor "(I)C" = some ⟨[.int], some .char⟩ := by decide +kernel
theorem ef1 (m : MethodId) (i1 : Int32) : entryFrame m #[(.int i1)] 2 = mkF m 0 #[.val (.int i1), .unset] [] := by first | (simp [entryFrame, mkF, argsToLocals, Value.category]; done) | rfl
def f1 (i1 : Int32) : Int32 := (if ((i1 &&& (255 : Int32)) &&& (128 : Int32)) = (0 : Int32) then (if ((i1 &&& (255 : Int32)) &&& (1 : Int32)) = (0 : Int32) then (42 : Int32) else (97 : Int32)) else (nar .char (((i1 &&& (255 : Int32)) &&& (127 : Int32)).toUInt32.toUInt16.toUInt32.toInt32)))
set_option maxRecDepth 65536 in
set_option maxHeartbeats 40000000 in
theorem rm1 (l : Launch) (Z : State) (a0 : Array Value) (hw : ∀ d ∈ tables_1, d.before a0 Z = true) (ws : List Jvm.Cond) (i1 : Int32) (h0 : Heap) (n0 : Nat) (Z0 : n0 ≤ h0.size)  :
    own_Met l (⟨"com/example/grantline/grantline/eval/OwnerCoversPinLaw", "ch", "(I)C"⟩ : MethodName) method_3_code 2 (some .char) ({ frames := 0, cells := 0, slots := 0, locals := 0 } : Room) ws #[(.int i1)] Z h0 0 0 (own_QP (some (.int (f1 i1))) h0 n0) := by
  refine own_met (plainFor_of_name pn0) ?_
  intro p e s m below meth c s₁ hx hby hml hown hnm hret hlk hZ e0 X0
  have hml : c.maxLocals = 2 := hml
  have N0 := Fr.nil n0
  have K0 := Keep.refl h0 []
  refine own_go (fun _ k => castTop (ef1 m i1) k) ?_
  show own_Fin p.tables e below _ (s₁.setTop (mkF m 0 #[.val (.int i1), .unset] []))
  refine own_go (fun _ k => XS.iloadN X0.here hx rfl (hb hby d1_0) rfl k) ?_
  show own_Fin p.tables e below _ (s₁.setTop (mkF m 1 #[.val (.int i1), .unset] [(.int i1)]))
  refine own_go (fun _ k => XT.sipushV X0.here hx rfl (255 : Int32) (hb hby d1_1) (by decide) k) ?_
  show own_Fin p.tables e below _ (s₁.setTop (mkF m 4 #[.val (.int i1), .unset] [(.int (255 : Int32)), (.int i1)]))
  refine own_go (fun _ k => XS.iand X0.here hx rfl (hb hby d1_4) rfl k) ?_
  show own_Fin p.tables e below _ (s₁.setTop (mkF m 5 #[.val (.int i1), .unset] [(.int (i1 &&& (255 : Int32)))]))
  refine own_go (fun _ k => XS.istoreN X0.here hx rfl (hb hby d1_5) rfl (l' := #[.val (.int i1), .val (.int (i1 &&& (255 : Int32)))]) rfl k) ?_
  show own_Fin p.tables e below _ (s₁.setTop (mkF m 6 #[.val (.int i1), .val (.int (i1 &&& (255 : Int32)))] []))
  refine own_go (fun _ k => XS.iloadN X0.here hx rfl (hb hby d1_6) rfl k) ?_
  show own_Fin p.tables e below _ (s₁.setTop (mkF m 7 #[.val (.int i1), .val (.int (i1 &&& (255 : Int32)))] [(.int (i1 &&& (255 : Int32)))]))
  refine own_go (fun _ k => XT.sipushV X0.here hx rfl (128 : Int32) (hb hby d1_7) (by decide) k) ?_
  show own_Fin p.tables e below _ (s₁.setTop (mkF m 10 #[.val (.int i1), .val (.int (i1 &&& (255 : Int32)))] [(.int (128 : Int32)), (.int (i1 &&& (255 : Int32)))]))
  refine own_go (fun _ k => XS.iand X0.here hx rfl (hb hby d1_10) rfl k) ?_
  show own_Fin p.tables e below _ (s₁.setTop (mkF m 11 #[.val (.int i1), .val (.int (i1 &&& (255 : Int32)))] [(.int ((i1 &&& (255 : Int32)) &&& (128 : Int32)))]))
  by_cases hc1 : ((i1 &&& (255 : Int32)) &&& (128 : Int32)) = (0 : Int32)
  · refine own_go (fun _ k => XS.ifNo X0.here hx rfl (hb hby d1_11) rfl (XT.i0_ne_f hc1) k) ?_
    show own_Fin p.tables e below _ (s₁.setTop (mkF m 14 #[.val (.int i1), .val (.int (i1 &&& (255 : Int32)))] []))
    refine own_go (fun _ k => XS.iloadN X0.here hx rfl (hb hby d1_14) rfl k) ?_
    show own_Fin p.tables e below _ (s₁.setTop (mkF m 15 #[.val (.int i1), .val (.int (i1 &&& (255 : Int32)))] [(.int (i1 &&& (255 : Int32)))]))
    refine own_go (fun _ k => XT.iconstV X0.here hx rfl (1 : Int32) (hb hby d1_15) (by decide) k) ?_
    show own_Fin p.tables e below _ (s₁.setTop (mkF m 16 #[.val (.int i1), .val (.int (i1 &&& (255 : Int32)))] [(.int (1 : Int32)), (.int (i1 &&& (255 : Int32)))]))
    refine own_go (fun _ k => XS.iand X0.here hx rfl (hb hby d1_16) rfl k) ?_
    show own_Fin p.tables e below _ (s₁.setTop (mkF m 17 #[.val (.int i1), .val (.int (i1 &&& (255 : Int32)))] [(.int ((i1 &&& (255 : Int32)) &&& (1 : Int32)))]))
    by_cases hc2 : ((i1 &&& (255 : Int32)) &&& (1 : Int32)) = (0 : Int32)
    · refine own_go (fun _ k => XS.ifNo X0.here hx rfl (hb hby d1_17) rfl (XT.i0_ne_f hc2) k) ?_
      show own_Fin p.tables e below _ (s₁.setTop (mkF m 20 #[.val (.int i1), .val (.int (i1 &&& (255 : Int32)))] []))
      refine own_go (fun _ k => XT.bipushV X0.here hx rfl (42 : Int32) (hb hby d1_20) (by decide) k) ?_
      show own_Fin p.tables e below _ (s₁.setTop (mkF m 22 #[.val (.int i1), .val (.int (i1 &&& (255 : Int32)))] [(.int (42 : Int32))]))
      refine own_go (fun _ k => XS.goto X0.here hx rfl (pc0 := 22) (pc' := 27) rfl (hb hby d1_22) (by decide) (by decide) k) ?_
      show own_Fin p.tables e below _ (s₁.setTop (mkF m 27 #[.val (.int i1), .val (.int (i1 &&& (255 : Int32)))] [(.int (42 : Int32))]))
      refine own_retN X0 hx hlk (t := .char) hret (by simp) (hb hby d1_27) ?_ (by decide) (by decide)
      exact ⟨by rw [show f1 i1 = (42 : Int32) from by simp only [f1, if_pos hc1, if_pos hc2]] <;> rfl, N0, e0⟩
    · refine own_go (fun _ k => XS.ifYes X0.here hx rfl (pc0 := 17) (pc' := 25) rfl (hb hby d1_17) rfl (XT.i0_ne_t hc2) (by decide) (by decide) k) ?_
      show own_Fin p.tables e below _ (s₁.setTop (mkF m 25 #[.val (.int i1), .val (.int (i1 &&& (255 : Int32)))] []))
      refine own_go (fun _ k => XT.bipushV X0.here hx rfl (97 : Int32) (hb hby d1_25) (by decide) k) ?_
      show own_Fin p.tables e below _ (s₁.setTop (mkF m 27 #[.val (.int i1), .val (.int (i1 &&& (255 : Int32)))] [(.int (97 : Int32))]))
      refine own_retN X0 hx hlk (t := .char) hret (by simp) (hb hby d1_27) ?_ (by decide) (by decide)
      exact ⟨by rw [show f1 i1 = (97 : Int32) from by simp only [f1, if_pos hc1, if_neg hc2]] <;> rfl, N0, e0⟩
  · refine own_go (fun _ k => XS.ifYes X0.here hx rfl (pc0 := 11) (pc' := 28) rfl (hb hby d1_11) rfl (XT.i0_ne_t hc1) (by decide) (by decide) k) ?_
    show own_Fin p.tables e below _ (s₁.setTop (mkF m 28 #[.val (.int i1), .val (.int (i1 &&& (255 : Int32)))] []))
    refine own_go (fun _ k => XS.iloadN X0.here hx rfl (hb hby d1_28) rfl k) ?_
    show own_Fin p.tables e below _ (s₁.setTop (mkF m 29 #[.val (.int i1), .val (.int (i1 &&& (255 : Int32)))] [(.int (i1 &&& (255 : Int32)))]))
    refine own_go (fun _ k => XT.bipushV X0.here hx rfl (127 : Int32) (hb hby d1_29) (by decide) k) ?_
    show own_Fin p.tables e below _ (s₁.setTop (mkF m 31 #[.val (.int i1), .val (.int (i1 &&& (255 : Int32)))] [(.int (127 : Int32)), (.int (i1 &&& (255 : Int32)))]))
    refine own_go (fun _ k => XS.iand X0.here hx rfl (hb hby d1_31) rfl k) ?_
    show own_Fin p.tables e below _ (s₁.setTop (mkF m 32 #[.val (.int i1), .val (.int (i1 &&& (255 : Int32)))] [(.int ((i1 &&& (255 : Int32)) &&& (127 : Int32)))]))
    refine own_go (fun _ k => XT.i2c X0.here hx rfl (hb hby d1_32) rfl k) ?_
    show own_Fin p.tables e below _ (s₁.setTop (mkF m 33 #[.val (.int i1), .val (.int (i1 &&& (255 : Int32)))] [(.int (((i1 &&& (255 : Int32)) &&& (127 : Int32)).toUInt32.toUInt16.toUInt32.toInt32))]))
    refine own_retN X0 hx hlk (t := .char) hret (by simp) (hb hby d1_33) ?_ (by decide) (by decide)
    exact ⟨by rw [show f1 i1 = (nar .char (((i1 &&& (255 : Int32)) &&& (127 : Int32)).toUInt32.toUInt16.toUInt32.toInt32)) from by simp only [f1, if_neg hc1]] <;> rfl, N0, e0⟩
theorem d2_0 : decode jdk_43_method_3_code 0 = .ok (.iload_n 0, 1) := by decide +kernel
theorem d2_1 : decode jdk_43_method_3_code 1 = .ok (.sipush 255, 3) := by decide +kernel
theorem d2_4 : decode jdk_43_method_3_code 4 = .ok (.if_icmp .gt 7, 3) := by decide +kernel
theorem d2_7 : decode jdk_43_method_3_code 7 = .ok (.iconst 1, 1) := by decide +kernel
theorem d2_8 : decode jdk_43_method_3_code 8 = .ok (.goto 4, 3) := by decide +kernel
theorem d2_11 : decode jdk_43_method_3_code 11 = .ok (.iconst 0, 1) := by decide +kernel
theorem d2_12 : decode jdk_43_method_3_code 12 = .ok (.ireturn, 1) := by decide +kernel
theorem pn1 : plainName "java/lang/StringLatin1" = true := by first | (simp [plainName, overriddenIn]; done) | decide +kernel
theorem pd1 : parseMethodDescriptor "(C)Z" = some ⟨[.char], some .boolean⟩ := by decide +kernel
theorem ef2 (m : MethodId) (i1 : Int32) : entryFrame m #[(.int i1)] 1 = mkF m 0 #[.val (.int i1)] [] := by first | (simp [entryFrame, mkF, argsToLocals, Value.category]; done) | rfl
def f2 (i1 : Int32) : Int32 := (if (255 : Int32) < i1 then (0 : Int32) else (1 : Int32))
set_option maxRecDepth 65536 in
set_option maxHeartbeats 40000000 in
theorem rm2 (l : Launch) (Z : State) (a0 : Array Value) (hw : ∀ d ∈ tables_1, d.before a0 Z = true) (ws : List Jvm.Cond) (i1 : Int32) (h0 : Heap) (n0 : Nat) (Z0 : n0 ≤ h0.size)  :
    own_Met l (⟨"java/lang/StringLatin1", "canEncode", "(C)Z"⟩ : MethodName) jdk_43_method_3_code 1 (some .boolean) ({ frames := 0, cells := 0, slots := 0, locals := 0 } : Room) ws #[(.int i1)] Z h0 0 0 (own_QP (some (.int (f2 i1))) h0 n0) := by
  refine own_met (plainFor_of_name pn1) ?_
  intro p e s m below meth c s₁ hx hby hml hown hnm hret hlk hZ e0 X0
  have hml : c.maxLocals = 1 := hml
  have N0 := Fr.nil n0
  have K0 := Keep.refl h0 []
  refine own_go (fun _ k => castTop (ef2 m i1) k) ?_
  show own_Fin p.tables e below _ (s₁.setTop (mkF m 0 #[.val (.int i1)] []))
  refine own_go (fun _ k => XS.iloadN X0.here hx rfl (hb hby d2_0) rfl k) ?_
  show own_Fin p.tables e below _ (s₁.setTop (mkF m 1 #[.val (.int i1)] [(.int i1)]))
  refine own_go (fun _ k => XT.sipushV X0.here hx rfl (255 : Int32) (hb hby d2_1) (by decide) k) ?_
  show own_Fin p.tables e below _ (s₁.setTop (mkF m 4 #[.val (.int i1)] [(.int (255 : Int32)), (.int i1)]))
  by_cases hc1 : (255 : Int32) < i1
  · refine own_go (fun _ k => XS.icmpYes X0.here hx rfl (pc0 := 4) (pc' := 11) rfl (hb hby d2_4) rfl (XT.ii_gt_t hc1) (by decide) (by decide) k) ?_
    show own_Fin p.tables e below _ (s₁.setTop (mkF m 11 #[.val (.int i1)] []))
    refine own_go (fun _ k => XT.iconstV X0.here hx rfl (0 : Int32) (hb hby d2_11) (by decide) k) ?_
    show own_Fin p.tables e below _ (s₁.setTop (mkF m 12 #[.val (.int i1)] [(.int (0 : Int32))]))
    refine own_retN X0 hx hlk (t := .boolean) hret (by simp) (hb hby d2_12) ?_ (by decide) (by decide)
    exact ⟨by rw [show f2 i1 = (0 : Int32) from by simp only [f2, if_pos hc1]] <;> rfl, N0, e0⟩
  · refine own_go (fun _ k => XS.icmpNo X0.here hx rfl (hb hby d2_4) rfl (XT.ii_gt_f hc1) k) ?_
    show own_Fin p.tables e below _ (s₁.setTop (mkF m 7 #[.val (.int i1)] []))
    refine own_go (fun _ k => XT.iconstV X0.here hx rfl (1 : Int32) (hb hby d2_7) (by decide) k) ?_
    show own_Fin p.tables e below _ (s₁.setTop (mkF m 8 #[.val (.int i1)] [(.int (1 : Int32))]))
    refine own_go (fun _ k => XS.goto X0.here hx rfl (pc0 := 8) (pc' := 12) rfl (hb hby d2_8) (by decide) (by decide) k) ?_
    show own_Fin p.tables e below _ (s₁.setTop (mkF m 12 #[.val (.int i1)] [(.int (1 : Int32))]))
    refine own_retN X0 hx hlk (t := .boolean) hret (by simp) (hb hby d2_12) ?_ (by decide) (by decide)
    exact ⟨by rw [show f2 i1 = (1 : Int32) from by simp only [f2, if_neg hc1]] <;> rfl, N0, e0⟩
theorem d3_0 : decode jdk_43_method_46_code 0 = .ok (.iconst 1, 1) := by decide +kernel
theorem d3_1 : decode jdk_43_method_46_code 1 = .ok (.newarray .byte, 2) := by decide +kernel
theorem d3_3 : decode jdk_43_method_46_code 3 = .ok (.dup, 1) := by decide +kernel
theorem d3_4 : decode jdk_43_method_46_code 4 = .ok (.iconst 0, 1) := by decide +kernel
theorem d3_5 : decode jdk_43_method_46_code 5 = .ok (.iload_n 0, 1) := by decide +kernel
theorem d3_6 : decode jdk_43_method_46_code 6 = .ok (.i2b, 1) := by decide +kernel
theorem d3_7 : decode jdk_43_method_46_code 7 = .ok (.bastore, 1) := by decide +kernel
theorem d3_8 : decode jdk_43_method_46_code 8 = .ok (.areturn, 1) := by decide +kernel
theorem pd2 : parseMethodDescriptor "(C)[B" = some ⟨[.char], some (.array .byte)⟩ := by decide +kernel
theorem ef3 (m : MethodId) (i1 : Int32) : entryFrame m #[(.int i1)] 1 = mkF m 0 #[.val (.int i1)] [] := by first | (simp [entryFrame, mkF, argsToLocals, Value.category]; done) | rfl
set_option maxRecDepth 65536 in
set_option maxHeartbeats 40000000 in
theorem rm3 (l : Launch) (Z : State) (a0 : Array Value) (hw : ∀ d ∈ tables_1, d.before a0 Z = true) (ws : List Jvm.Cond) (i1 : Int32) (h0 : Heap) (n0 : Nat) (Z0 : n0 ≤ h0.size)  :
    own_Met l (⟨"java/lang/StringLatin1", "toBytes", "(C)[B"⟩ : MethodName) jdk_43_method_46_code 1 (some (.array .byte)) ({ frames := 0, cells := 1, slots := 1, locals := 0 } : Room) ws #[(.int i1)] Z h0 1 1 (fun v h L => ∃ b k, v = some (.ref b) ∧ Fr n0 L ∧ Keep h0 h [] ∧ h0.size ≤ b ∧ Arv Z h b k .byte (1 : Int32) [(.int (nar .byte (i1.toInt8.toInt32)))] (.int (0 : Int32))) := by
  refine own_met (plainFor_of_name pn1) ?_
  intro p e s m below meth c s₁ hx hby hml hown hnm hret hlk hZ e0 X0
  have hml : c.maxLocals = 1 := hml
  have N0 := Fr.nil n0
  have K0 := Keep.refl h0 []
  refine own_go (fun _ k => castTop (ef3 m i1) k) ?_
  show own_Fin p.tables e below _ (s₁.setTop (mkF m 0 #[.val (.int i1)] []))
  refine own_go (fun _ k => XT.iconstV X0.here hx rfl (1 : Int32) (hb hby d3_0) (by decide) k) ?_
  show own_Fin p.tables e below _ (s₁.setTop (mkF m 1 #[.val (.int i1)] [(.int (1 : Int32))]))
  obtain ⟨T1, h1, k1, X1, e1, E1, A1, st1⟩ := newP X0 hx hZ (hw _ (List.mem_of_getElem? (i := 10) rfl)) e0 (g := (mkF m 1 #[.val (.int i1)] [(.int (1 : Int32))])) rfl (hb hby d3_1) rfl (by decide) (cap := 1) (by decide) (by decide) (by decide) (by decide)
  obtain ⟨a1, g1⟩ : ∃ z, z = h0.size := ⟨_, rfl⟩
  rw [← g1] at A1 st1
  have q1 : h0.size ≤ a1 := Nat.le_trans K0.1 (Nat.le_of_eq g1.symm)
  have z1 : n0 ≤ a1 := Nat.le_trans Z0 q1
  have K1 := K0.ext E1
  have Va1 : Arv Z h1 a1 k1 .byte (1 : Int32) [(.int (0 : Int32))] (.int (0 : Int32)) := (Arv.new A1 (by decide)).pad (pad_rep [] (.int (0 : Int32)) 1)
  refine own_go st1 ?_
  show own_Fin p.tables e below _ (T1.setTop (mkF m 3 #[.val (.int i1)] [(.ref a1)]))
  refine own_go (fun _ k => XS.dup X1.here hx rfl (hb hby d3_3) rfl rfl k) ?_
  show own_Fin p.tables e below _ (T1.setTop (mkF m 4 #[.val (.int i1)] [(.ref a1), (.ref a1)]))
  refine own_go (fun _ k => XT.iconstV X1.here hx rfl (0 : Int32) (hb hby d3_4) (by decide) k) ?_
  show own_Fin p.tables e below _ (T1.setTop (mkF m 5 #[.val (.int i1)] [(.int (0 : Int32)), (.ref a1), (.ref a1)]))
  refine own_go (fun _ k => XS.iloadN X1.here hx rfl (hb hby d3_5) rfl k) ?_
  show own_Fin p.tables e below _ (T1.setTop (mkF m 6 #[.val (.int i1)] [(.int i1), (.int (0 : Int32)), (.ref a1), (.ref a1)]))
  refine own_go (fun _ k => XT.i2b X1.here hx rfl (hb hby d3_6) rfl k) ?_
  show own_Fin p.tables e below _ (T1.setTop (mkF m 7 #[.val (.int i1)] [(.int (i1.toInt8.toInt32)), (.int (0 : Int32)), (.ref a1), (.ref a1)]))
  obtain ⟨c2, Ar2, q2, S2, M2, H2, U2⟩ := id Va1
  obtain ⟨T2, h2, X2, e2, W2, st2⟩ := stB X1 hx hZ e1 Ar2 (j := (0 : Int32)) (inb_of S2 ⟨(by decide), (by decide)⟩) (g := (mkF m 7 #[.val (.int i1)] [(.int (i1.toInt8.toInt32)), (.int (0 : Int32)), (.ref a1), (.ref a1)])) rfl rfl (hb hby d3_7)
  have K2 := K1.wr W2 (Or.inr q1)
  have N2 := Fr.snoc X2 N0 z1
  have Va1_2 : Arv Z h2 a1 k1 .byte (1 : Int32) [(.int (nar .byte (i1.toInt8.toInt32)))] (.int (0 : Int32)) := Arv.set Ar2 q2 S2 M2 H2 U2 (StrChars.fits_lo8 _) W2 0 rfl (Nat.le_of_ble_eq_true rfl)
  refine own_go st2 ?_
  show own_Fin p.tables e below _ (T2.setTop (mkF m 8 #[.val (.int i1)] [(.ref a1)]))
  refine own_retA X2 hx hlk hret rfl rfl (hb hby d3_8) ?_ (by decide) (by decide)
  show ∃ b k, _ ∧ _ ∧ Keep h0 T2.heap [] ∧ _ ∧ Arv Z T2.heap _ _ _ _ _ _
  rw [e2]
  exact ⟨a1, k1, rfl, N2, K2, q1, Va1_2⟩
theorem d4_0 : decode jdk_42_method_151_code 0 = .ok (.aload_n 0, 1) := by decide +kernel
theorem d4_1 : decode jdk_42_method_151_code 1 = .ok (.invokespecial 1, 3) := by decide +kernel
theorem d4_4 : decode jdk_42_method_151_code 4 = .ok (.aload_n 0, 1) := by decide +kernel
theorem d4_5 : decode jdk_42_method_151_code 5 = .ok (.aload_n 1, 1) := by decide +kernel
theorem d4_6 : decode jdk_42_method_151_code 6 = .ok (.putfield 9, 3) := by decide +kernel
theorem d4_9 : decode jdk_42_method_151_code 9 = .ok (.aload_n 0, 1) := by decide +kernel
theorem d4_10 : decode jdk_42_method_151_code 10 = .ok (.iload_n 2, 1) := by decide +kernel
theorem d4_11 : decode jdk_42_method_151_code 11 = .ok (.putfield 15, 3) := by decide +kernel
theorem d4_14 : decode jdk_42_method_151_code 14 = .ok (.return_, 1) := by decide +kernel
theorem pn2 : plainName "java/lang/String" = true := by first | (simp [plainName, overriddenIn]; done) | decide +kernel
theorem pd3 : parseMethodDescriptor "([BB)V" = some ⟨[(.array .byte), .byte], none⟩ := by decide +kernel
theorem ef4 (m : MethodId) (r0 : Addr) (r1 : Addr) : entryFrame m #[(.ref r0), (.ref r1), (.int (0 : Int32))] 3 = mkF m 0 #[.val (.ref r0), .val (.ref r1), .val (.int (0 : Int32))] [] := by first | (simp [entryFrame, mkF, argsToLocals, Value.category]; done) | rfl
set_option maxRecDepth 65536 in
set_option maxHeartbeats 40000000 in
theorem rm4 (l : Launch) (Z : State) (a0 : Array Value) (hw : ∀ d ∈ tables_1, d.before a0 Z = true) (ws : List Jvm.Cond) (r0 : Addr) (r1 : Addr) (u_value : Value) (u_coder : Value) (h0 : Heap) (n0 : Nat) (Z0 : n0 ≤ h0.size) (E_a : Exa Z h0 r0 "java/lang/String") (F_value : Fld Z h0 r0 "java/lang/String" "value" "[B" u_value) (F_coder : Fld Z h0 r0 "java/lang/String" "coder" "B" u_coder) (g_a : n0 ≤ r0) :
    own_Met l (⟨"java/lang/String", "<init>", "([BB)V"⟩ : MethodName) jdk_42_method_151_code 3 none ({ frames := 1, cells := 0, slots := 0, locals := 12 } : Room) ws #[(.ref r0), (.ref r1), (.int (0 : Int32))] Z h0 0 0 (fun v h L => v = none ∧ Fr n0 L ∧ Keep h0 h [r0] ∧ Exa Z h r0 "java/lang/String" ∧ Fld Z h r0 "java/lang/String" "value" "[B" (.ref r1) ∧ Fld Z h r0 "java/lang/String" "coder" "B" (.int (0 : Int32))) := by
  refine own_met (plainFor_of_name pn2) ?_
  intro p e s m below meth c s₁ hx hby hml hown hnm hret hlk hZ e0 X0
  have hml : c.maxLocals = 3 := hml
  have N0 := Fr.nil n0
  have K0 := Keep.refl h0 [r0]
  refine own_go (fun _ k => castTop (ef4 m r0 r1) k) ?_
  show own_Fin p.tables e below _ (s₁.setTop (mkF m 0 #[.val (.ref r0), .val (.ref r1), .val (.int (0 : Int32))] []))
  refine own_go (fun _ k => XS.aloadN X0.here hx rfl (hb hby d4_0) rfl rfl k) ?_
  show own_Fin p.tables e below _ (s₁.setTop (mkF m 1 #[.val (.ref r0), .val (.ref r1), .val (.int (0 : Int32))] [(.ref r0)]))
  obtain ⟨T1, X1, e1, st1⟩ := initO X0 hx hZ hown (hw _ (List.mem_of_getElem? (i := 24) rfl)) (hw _ (List.mem_of_getElem? (i := 25) rfl)) (hw _ (List.mem_of_getElem? (i := 26) rfl)) e0 (g := (mkF m 1 #[.val (.ref r0), .val (.ref r1), .val (.int (0 : Int32))] [(.ref r0)])) rfl (by rw [hml]; rfl) rfl (hb hby d4_1) (by decide) (W := 0) (by show 2 * 0 + _ ≤ _; exact Nat.le_of_eq rfl) (by decide)
  refine own_go st1 ?_
  show own_Fin p.tables e below _ (T1.setTop (mkF m 4 #[.val (.ref r0), .val (.ref r1), .val (.int (0 : Int32))] []))
  refine own_go (fun _ k => XS.aloadN X1.here hx rfl (hb hby d4_4) rfl rfl k) ?_
  show own_Fin p.tables e below _ (T1.setTop (mkF m 5 #[.val (.ref r0), .val (.ref r1), .val (.int (0 : Int32))] [(.ref r0)]))
  refine own_go (fun _ k => XS.aloadN X1.here hx rfl (hb hby d4_5) rfl rfl k) ?_
  show own_Fin p.tables e below _ (T1.setTop (mkF m 6 #[.val (.ref r0), .val (.ref r1), .val (.int (0 : Int32))] [(.ref r1), (.ref r0)]))
  obtain ⟨T2, h2, X2, e2, W2, st2⟩ := putF X1 hx hZ hown (host := "") (Or.inl (hw _ (List.mem_of_getElem? (i := 39) rfl))) Via.refl e1 F_value E_a (Or.inr ⟨(hw _ (List.mem_of_getElem? (i := 11) rfl)), rfl, hnm⟩) (hw _ (List.mem_of_getElem? (i := 9) rfl)) (ty := (.array .byte)) (by decide) rfl rfl (g := (mkF m 6 #[.val (.ref r0), .val (.ref r1), .val (.int (0 : Int32))] [(.ref r1), (.ref r0)])) rfl rfl (hb hby d4_6)
  have K2 := K0.wr W2 (Or.inl (List.mem_of_getElem? (i := 0) rfl))
  have N2 := Fr.snoc X2 N0 g_a
  have Er0_2 := E_a.wr W2
  have Fr0_value_2 := F_value.same W2
  have Fr0_coder_2 := F_coder.other W2 (Or.inr (slot_ne (Or.inr (hw _ (List.mem_of_getElem? (i := 12) rfl))) (Or.inr (hw _ (List.mem_of_getElem? (i := 11) rfl))) (by decide) (t := .byte) (t' := (.array .byte)) (by decide) (by decide)))
  refine own_go st2 ?_
  show own_Fin p.tables e below _ (T2.setTop (mkF m 9 #[.val (.ref r0), .val (.ref r1), .val (.int (0 : Int32))] []))
  refine own_go (fun _ k => XS.aloadN X2.here hx rfl (hb hby d4_9) rfl rfl k) ?_
  show own_Fin p.tables e below _ (T2.setTop (mkF m 10 #[.val (.ref r0), .val (.ref r1), .val (.int (0 : Int32))] [(.ref r0)]))
  refine own_go (fun _ k => XS.iloadN X2.here hx rfl (hb hby d4_10) rfl k) ?_
  show own_Fin p.tables e below _ (T2.setTop (mkF m 11 #[.val (.ref r0), .val (.ref r1), .val (.int (0 : Int32))] [(.int (0 : Int32)), (.ref r0)]))
  obtain ⟨T3, h3, X3, e3, W3, st3⟩ := putF X2 hx hZ hown (host := "") (Or.inl (hw _ (List.mem_of_getElem? (i := 38) rfl))) Via.refl e2 Fr0_coder_2 Er0_2 (Or.inr ⟨(hw _ (List.mem_of_getElem? (i := 12) rfl)), rfl, hnm⟩) (hw _ (List.mem_of_getElem? (i := 9) rfl)) (ty := .byte) (by decide) rfl rfl (g := (mkF m 11 #[.val (.ref r0), .val (.ref r1), .val (.int (0 : Int32))] [(.int (0 : Int32)), (.ref r0)])) rfl rfl (hb hby d4_11)
  have K3 := K2.wr W3 (Or.inl (List.mem_of_getElem? (i := 0) rfl))
  have N3 := Fr.snoc X3 N2 g_a
  have Er0_3 := Er0_2.wr W3
  have Fr0_value_3 := Fr0_value_2.other W3 (Or.inr (slot_ne (Or.inr (hw _ (List.mem_of_getElem? (i := 11) rfl))) (Or.inr (hw _ (List.mem_of_getElem? (i := 12) rfl))) (by decide) (t := (.array .byte)) (t' := .byte) (by decide) (by decide)))
  have Fr0_coder_3 := Fr0_coder_2.same W3
  refine own_go st3 ?_
  show own_Fin p.tables e below _ (T3.setTop (mkF m 14 #[.val (.ref r0), .val (.ref r1), .val (.int (0 : Int32))] []))
  refine own_retV X3 hx hlk hret (hb hby d4_14) ?_ (by decide) (by decide)
  show _ ∧ _ ∧ Keep h0 T3.heap _ ∧ _
  rw [e3]
  exact ⟨rfl, N3, K3, Er0_3, Fr0_value_3, Fr0_coder_3⟩
theorem own_narb (c : Int32) : nar .byte (c.toInt8.toInt32) = c.toInt8.toInt32 := by simp [nar]
theorem own_enc (c : Int32) (h : ¬ c < 0 ∧ ¬ (255 : Int32) < c) : ¬ f2 c = 0 := by
  unfold f2
  rw [if_neg h.2]; decide
theorem d5_0 : decode jdk_42_method_139_code 0 = .ok (.getstatic 38, 3) := by decide +kernel
theorem d5_3 : decode jdk_42_method_139_code 3 = .ok (.ifCond .eq 23, 3) := by decide +kernel
theorem d5_6 : decode jdk_42_method_139_code 6 = .ok (.iload_n 0, 1) := by decide +kernel
theorem d5_7 : decode jdk_42_method_139_code 7 = .ok (.invokestatic 1015, 3) := by decide +kernel
theorem d5_10 : decode jdk_42_method_139_code 10 = .ok (.ifCond .eq 16, 3) := by decide +kernel
theorem d5_13 : decode jdk_42_method_139_code 13 = .ok (.new 10, 3) := by decide +kernel
theorem d5_16 : decode jdk_42_method_139_code 16 = .ok (.dup, 1) := by decide +kernel
theorem d5_17 : decode jdk_42_method_139_code 17 = .ok (.iload_n 0, 1) := by decide +kernel
theorem d5_18 : decode jdk_42_method_139_code 18 = .ok (.invokestatic 1018, 3) := by decide +kernel
theorem d5_21 : decode jdk_42_method_139_code 21 = .ok (.iconst 0, 1) := by decide +kernel
theorem d5_22 : decode jdk_42_method_139_code 22 = .ok (.invokespecial 209, 3) := by decide +kernel
theorem d5_25 : decode jdk_42_method_139_code 25 = .ok (.areturn, 1) := by decide +kernel
theorem pd4 : parseMethodDescriptor "(C)Ljava/lang/String;" = some ⟨[.char], some (.object "java/lang/String")⟩ := by decide +kernel
theorem ef5 (m : MethodId) (i1 : Int32) : entryFrame m #[(.int i1)] 1 = mkF m 0 #[.val (.int i1)] [] := by first | (simp [entryFrame, mkF, argsToLocals, Value.category]; done) | rfl
set_option maxRecDepth 65536 in
set_option maxHeartbeats 40000000 in
theorem rm5 (l : Launch) (Z : State) (a0 : Array Value) (hw : ∀ d ∈ tables_1, d.before a0 Z = true) (ws : List Jvm.Cond) (i1 : Int32) (h0 : Heap) (n0 : Nat) (Z0 : n0 ≤ h0.size) (ic : Int32) (SC : Sta Z Z.heap "java/lang/String" "COMPACT_STRINGS" "Z" (.int ic)) (hz : ¬ ic = 0) (O0 : Old Z n0 h0) (hbb : ¬ i1 < 0 ∧ ¬ (255 : Int32) < i1) :
    own_Met l (⟨"java/lang/String", "valueOf", "(C)Ljava/lang/String;"⟩ : MethodName) jdk_42_method_139_code 1 (some (.object "java/lang/String")) ({ frames := 2, cells := 2, slots := 5, locals := 27 } : Room) ws #[(.int i1)] Z h0 2 5 (fun v h L => ∃ a, v = some (.ref a) ∧ Fr n0 L ∧ Keep h0 h [] ∧ h0.size ≤ a ∧ own_Str Z h a [i1] h.size) := by
  refine own_met (plainFor_of_name pn2) ?_
  intro p e s m below meth c s₁ hx hby hml hown hnm hret hlk hZ e0 X0
  have hml : c.maxLocals = 1 := hml
  have N0 := Fr.nil n0
  have K0 := Keep.refl h0 []
  refine own_go (fun _ k => castTop (ef5 m i1) k) ?_
  show own_Fin p.tables e below _ (s₁.setTop (mkF m 0 #[.val (.int i1)] []))
  obtain ⟨T1, X1, e1, st1⟩ := getS (host := "") X0 hx hZ hown (hw _ (List.mem_of_getElem? (i := 27) rfl)) Via.refl e0 (SC.ext O0.2) (g := (mkF m 0 #[.val (.int i1)] [])) rfl (hb hby d5_0)
  refine own_go st1 ?_
  show own_Fin p.tables e below _ (T1.setTop (mkF m 3 #[.val (.int i1)] [(.int ic)]))
  refine own_go (fun _ k => XS.ifNo X1.here hx rfl (hb hby d5_3) rfl (XT.i0_eq_f hz) k) ?_
  show own_Fin p.tables e below _ (T1.setTop (mkF m 6 #[.val (.int i1)] []))
  refine own_go (fun _ k => XS.iloadN X1.here hx rfl (hb hby d5_6) rfl k) ?_
  show own_Fin p.tables e below _ (T1.setTop (mkF m 7 #[.val (.int i1)] [(.int i1)]))
  obtain ⟨_, T2, L2, X2, ⟨rfl, M2, e2⟩, st2⟩ := own_callS X1 hx hZ hown (hw _ (List.mem_of_getElem? (i := 43) rfl)) (hw _ (List.mem_of_getElem? (i := 44) rfl)) (hw _ (List.mem_of_getElem? (i := 45) rfl)) (hw _ (List.mem_of_getElem? (i := 46) rfl)) (by decide) (W := 0) (rm2 l Z a0 hw [] i1 h0 n0 (Nat.le_trans Z0 K0.1) ) (by decide) (by decide) e1 (g := (mkF m 7 #[.val (.int i1)] [(.int i1)])) rfl (by rw [hml]; rfl) (argsL := [(.int i1)]) (rest := []) rfl (lenOf pd1 rfl) rfl (by show 2 * 0 + _ ≤ _; exact Nat.le_of_eq rfl) (hb hby d5_7) (by decide) (by decide)
  have N2 := Fr.app N0 M2
  refine own_go st2 ?_
  show own_Fin p.tables e below _ (T2.setTop (mkF m 10 #[.val (.int i1)] [(.int (f2 i1))]))
  refine own_go (fun _ k => XS.ifNo X2.here hx rfl (hb hby d5_10) rfl (XT.i0_eq_f (own_enc i1 hbb)) k) ?_
  show own_Fin p.tables e below _ (T2.setTop (mkF m 13 #[.val (.int i1)] []))
  obtain ⟨T3, h3, X3, e3, E3, A3, D3, -, st3⟩ := newO X2 hx hZ hown (hw _ (List.mem_of_getElem? (i := 47) rfl)) (hw _ (List.mem_of_getElem? (i := 9) rfl)) (hw _ (List.mem_of_getElem? (i := 8) rfl)) e2 (g := (mkF m 13 #[.val (.int i1)] [])) rfl (hb hby d5_13) (by decide) (by decide)
  obtain ⟨a3, g3⟩ : ∃ z, z = h0.size := ⟨_, rfl⟩
  rw [← g3] at A3 D3 st3
  have q3 : h0.size ≤ a3 := Nat.le_trans K0.1 (Nat.le_of_eq g3.symm)
  have z3 : n0 ≤ a3 := Nat.le_trans Z0 q3
  have O_3 := O0.ext E3
  have K3 := K0.ext E3
  have Fa3_value : Fld Z h3 a3 "java/lang/String" "value" "[B" .null := D3 (Or.inr (hw _ (List.mem_of_getElem? (i := 11) rfl))) (ty := (.array .byte)) (by decide)
  have Fa3_coder : Fld Z h3 a3 "java/lang/String" "coder" "B" (.int (0 : Int32)) := D3 (Or.inr (hw _ (List.mem_of_getElem? (i := 12) rfl))) (ty := .byte) (by decide)
  refine own_go st3 ?_
  show own_Fin p.tables e below _ (T3.setTop (mkF m 16 #[.val (.int i1)] [(.ref a3)]))
  refine own_go (fun _ k => XS.dup X3.here hx rfl (hb hby d5_16) rfl rfl k) ?_
  show own_Fin p.tables e below _ (T3.setTop (mkF m 17 #[.val (.int i1)] [(.ref a3), (.ref a3)]))
  refine own_go (fun _ k => XS.iloadN X3.here hx rfl (hb hby d5_17) rfl k) ?_
  show own_Fin p.tables e below _ (T3.setTop (mkF m 18 #[.val (.int i1)] [(.int i1), (.ref a3), (.ref a3)]))
  obtain ⟨_, T4, L4, X4, ⟨a4, k4, rfl, M4, KK4, q4, V4⟩, st4⟩ := own_callS X3 hx hZ hown (hw _ (List.mem_of_getElem? (i := 48) rfl)) (hw _ (List.mem_of_getElem? (i := 49) rfl)) (hw _ (List.mem_of_getElem? (i := 45) rfl)) (hw _ (List.mem_of_getElem? (i := 50) rfl)) (by decide) (W := 2) (rm3 l Z a0 hw [] i1 h3 n0 (Nat.le_trans Z0 K3.1)) (by decide) (by decide) e3 (g := (mkF m 18 #[.val (.int i1)] [(.int i1), (.ref a3), (.ref a3)])) rfl (by rw [hml]; rfl) (argsL := [(.int i1)]) (rest := [(.ref a3), (.ref a3)]) rfl (lenOf pd2 rfl) rfl (by show 2 * 0 + _ ≤ _; exact Nat.le_of_eq rfl) (hb hby d5_18) (by decide) (by decide)
  have N4 := Fr.app N2 M4
  have O_4 := O_3.keep KK4 all0
  have Ea3_4 := A3.keep KK4
  have Fa3_value_4 := Fa3_value.keep KK4 nin0
  have Fa3_coder_4 := Fa3_coder.keep KK4 nin0
  have K4 := K3.trans KK4 all0
  refine own_go st4 ?_
  show own_Fin p.tables e below _ (T4.setTop (mkF m 21 #[.val (.int i1)] [(.ref a4), (.ref a3), (.ref a3)]))
  refine own_go (fun _ k => XT.iconstV X4.here hx rfl (0 : Int32) (hb hby d5_21) (by decide) k) ?_
  show own_Fin p.tables e below _ (T4.setTop (mkF m 22 #[.val (.int i1)] [(.int (0 : Int32)), (.ref a4), (.ref a3), (.ref a3)]))
  obtain ⟨_, T5, L5, X5, ⟨rfl, M5, KK5, -, G5_value, G5_coder⟩, st5⟩ := own_callC X4 hx hZ hown rfl (hw _ (List.mem_of_getElem? (i := 51) rfl)) (hw _ (List.mem_of_getElem? (i := 52) rfl)) (hw _ (List.mem_of_getElem? (i := 8) rfl)) (hw _ (List.mem_of_getElem? (i := 53) rfl)) (by decide) (W := 1) (rm4 l Z a0 hw [] a3 a4 .null (.int (0 : Int32)) T4.heap n0 (Nat.le_trans Z0 K4.1) Ea3_4 Fa3_value_4 Fa3_coder_4 z3 ) (by decide) (by decide) rfl (g := (mkF m 22 #[.val (.int i1)] [(.int (0 : Int32)), (.ref a4), (.ref a3), (.ref a3)])) rfl (by rw [hml]; rfl) (argsL := [(.ref a4), (.int (0 : Int32))]) (rest := [(.ref a3)]) rfl (lenOf pd3 rfl) rfl (by show 2 * 0 + _ ≤ _; exact Nat.le_of_eq rfl) (hb hby d5_22) (by decide) (by decide)
  have N5 := Fr.app N4 M5
  have O_5 := O_4.keep KK5 (allS z3 all0)
  have Ea3_5 := Ea3_4.keep KK5
  have Va4_5 := V4.keep KK5 (ninS (Ne.symm (Exa.neArv Ea3_4 V4 (hw _ (List.mem_of_getElem? (i := 9) rfl)))) nin0)
  have K5 := K4.trans KK5 (allS (Or.inr q3) all0)
  refine own_go st5 ?_
  show own_Fin p.tables e below _ (T5.setTop (mkF m 25 #[.val (.int i1)] [(.ref a3)]))
  refine own_retA X5 hx hlk hret rfl rfl (hb hby d5_25) ?_ (by decide) (by decide)
  have hA := Va4_5
  rw [own_narb] at hA
  exact ⟨a3, rfl, N5, K5, q3, Ea3_5, ⟨fun c hc => by rw [List.mem_singleton.mp hc]; exact hbb, Nat.le_of_ble_eq_true rfl⟩, Ea3_5.lt, a4, k4, Va4_5.lt, G5_coder, G5_value, hA⟩
theorem pd5 : parseMethodDescriptor "()I" = some ⟨[], some .int⟩ := by decide +kernel
theorem own_ofn {n : Nat} (h : n ≤ 4000) : (Int32.ofNat n).toInt = n := Int32.toInt_ofNat_small (by omega)
theorem own_len1 {cs : List Int32} (hc : own_Chr cs) (h : Int32.ofNat cs.length = 1) : 0 < cs.length := by
  have := congrArg Int32.toInt h
  rw [own_ofn hc.2] at this
  have e : (1 : Int32).toInt = 1 := by decide
  omega
theorem own_ltn {cs : List Int32} (hc : own_Chr cs) (k : Nat) (hk : k ≤ 4000) (h : Int32.ofNat k < Int32.ofNat cs.length) : k < cs.length := by
  rw [Int32.lt_iff_toInt_lt, own_ofn hc.2, own_ofn hk] at h
  omega
theorem own_leq {cs ds : List Int32} (hc : own_Chr cs) (hd : own_Chr ds) (h : Int32.ofNat cs.length = Int32.ofNat ds.length) : cs.length = ds.length := by
  have := congrArg Int32.toInt h
  rw [own_ofn hc.2, own_ofn hd.2] at this
  omega
theorem d6_0 : decode method_5_code 0 = .ok (.aload_n 0, 1) := by decide +kernel
theorem d6_1 : decode method_5_code 1 = .ok (.invokevirtual 45, 3) := by decide +kernel
theorem d6_4 : decode method_5_code 4 = .ok (.iconst 1, 1) := by decide +kernel
theorem d6_5 : decode method_5_code 5 = .ok (.if_icmp .ne 17, 3) := by decide +kernel
theorem d6_8 : decode method_5_code 8 = .ok (.aload_n 0, 1) := by decide +kernel
theorem d6_9 : decode method_5_code 9 = .ok (.iconst 0, 1) := by decide +kernel
theorem d6_10 : decode method_5_code 10 = .ok (.invokevirtual 49, 3) := by decide +kernel
theorem d6_13 : decode method_5_code 13 = .ok (.bipush 42, 2) := by decide +kernel
theorem d6_15 : decode method_5_code 15 = .ok (.if_icmp .ne 7, 3) := by decide +kernel
theorem d6_18 : decode method_5_code 18 = .ok (.iconst 1, 1) := by decide +kernel
theorem d6_19 : decode method_5_code 19 = .ok (.goto 4, 3) := by decide +kernel
theorem d6_22 : decode method_5_code 22 = .ok (.iconst 0, 1) := by decide +kernel
theorem d6_23 : decode method_5_code 23 = .ok (.ireturn, 1) := by decide +kernel
theorem pd6 : parseMethodDescriptor "(Ljava/lang/String;)Z" = some ⟨[(.object "java/lang/String")], some .boolean⟩ := by decide +kernel
theorem ef6 (m : MethodId) (r0 : Addr) : entryFrame m #[(.ref r0)] 1 = mkF m 0 #[.val (.ref r0)] [] := by first | (simp [entryFrame, mkF, argsToLocals, Value.category]; done) | rfl
def f6 (c1 : List Int32) : Int32 := (if (Int32.ofNat c1.length) = (1 : Int32) then (if (c1.getD 0 0) = (42 : Int32) then (1 : Int32) else (0 : Int32)) else (0 : Int32))
set_option maxRecDepth 65536 in
set_option maxHeartbeats 40000000 in
theorem rm6 (l : Launch) (Z : State) (a0 : Array Value) (hw : ∀ d ∈ tables_1, d.before a0 Z = true) (ws : List Jvm.Cond) (r0 : Addr) (h0 : Heap) (n0 : Nat) (Z0 : n0 ≤ h0.size) (c1 : List Int32) (B1 : Nat) (S1 : own_Str Z h0 r0 c1 B1) (ic : Int32) (SC : Sta Z Z.heap "java/lang/String" "COMPACT_STRINGS" "Z" (.int ic)) (hz : ¬ ic = 0) (O0 : Old Z n0 h0) (fm : Value) (SF : Sta Z Z.heap "jdk/internal/util/Preconditions" "SIOOBE_FORMATTER" "Ljava/util/function/BiFunction;" fm) (rf : fm.isRef = true) :
    own_Met l (⟨"com/example/grantline/grantline/eval/OwnerCoversPinLaw", "isAny", "(Ljava/lang/String;)Z"⟩ : MethodName) method_5_code 1 (some .boolean) ({ frames := 4, cells := 0, slots := 0, locals := 53 } : Room) ws #[(.ref r0)] Z h0 0 0 (own_QP (some (.int (f6 c1))) h0 n0) := by
  refine own_met (plainFor_of_name pn0) ?_
  intro p e s m below meth c s₁ hx hby hml hown hnm hret hlk hZ e0 X0
  have hml : c.maxLocals = 1 := hml
  have N0 := Fr.nil n0
  have K0 := Keep.refl h0 []
  have hwl : ∀ d ∈ StrChars.Road.wordsLen, d.before a0 Z = true := fun d hd => hw d ((by decide +kernel : ∀ d ∈ StrChars.Road.wordsLen, d ∈ tables_1) d hd)
  have hwc : ∀ d ∈ StrChars.Road.wordsChN, d.before a0 Z = true := fun d hd => hw d ((by decide +kernel : ∀ d ∈ StrChars.Road.wordsChN, d ∈ tables_1) d hd)
  refine own_go (fun _ k => castTop (ef6 m r0) k) ?_
  show own_Fin p.tables e below _ (s₁.setTop (mkF m 0 #[.val (.ref r0)] []))
  refine own_go (fun _ k => XS.aloadN X0.here hx rfl (hb hby d6_0) rfl rfl k) ?_
  show own_Fin p.tables e below _ (s₁.setTop (mkF m 1 #[.val (.ref r0)] [(.ref r0)]))
  obtain ⟨Ex1, cx1, -, tx1, kx1, -, Cx1, Vx1, Ax1⟩ := id S1
  obtain ⟨_, T1, L1, X1, ⟨rfl, hL1, e1⟩, st1⟩ := own_callVB X0 hx hZ hown (hw _ (List.mem_of_getElem? (i := 73) rfl)) (hw _ (List.mem_of_getElem? (i := 74) rfl)) (hw _ (List.mem_of_getElem? (i := 76) rfl)) (hw _ (List.mem_of_getElem? (i := 75) rfl)) (by decide) (W := 0) (kc := 0) (kn := 0) (Qb := fun v U L => v = some (.int (Int32.ofNat c1.length)) ∧ L = [] ∧ U.heap = h0) (StrChars.Road.lenW (W := 0) hZ hwl (kI := 4) (hw _ (List.mem_of_getElem? (i := 9) rfl)) Ex1 Vx1 Cx1 Ax1 (StrChars.Road.codOf rfl (fun c hc => (cx1.1 c hc).2)) (own_up cx1.1) (SC.ext O0.2) hz cx1.2 (by decide) (by decide)) e0 Ex1 (g := (mkF m 1 #[.val (.ref r0)] [(.ref r0)])) rfl (by rw [hml]; rfl) (argsL := []) (rest := []) rfl (lenOf pd5 rfl) rfl (by show 2 * 0 + _ ≤ _; exact Nat.le_of_eq rfl) (hb hby d6_1) (by decide) (by decide)
  have N1 := Fr.app N0 (hL1 ▸ Fr.nil n0)
  refine own_go st1 ?_
  show own_Fin p.tables e below _ (T1.setTop (mkF m 4 #[.val (.ref r0)] [(.int (Int32.ofNat c1.length))]))
  refine own_go (fun _ k => XT.iconstV X1.here hx rfl (1 : Int32) (hb hby d6_4) (by decide) k) ?_
  show own_Fin p.tables e below _ (T1.setTop (mkF m 5 #[.val (.ref r0)] [(.int (1 : Int32)), (.int (Int32.ofNat c1.length))]))
  by_cases hc2 : (Int32.ofNat c1.length) = (1 : Int32)
  · refine own_go (fun _ k => XS.icmpNo X1.here hx rfl (hb hby d6_5) rfl (XT.ii_ne_f hc2) k) ?_
    show own_Fin p.tables e below _ (T1.setTop (mkF m 8 #[.val (.ref r0)] []))
    refine own_go (fun _ k => XS.aloadN X1.here hx rfl (hb hby d6_8) rfl rfl k) ?_
    show own_Fin p.tables e below _ (T1.setTop (mkF m 9 #[.val (.ref r0)] [(.ref r0)]))
    refine own_go (fun _ k => XT.iconstV X1.here hx rfl (0 : Int32) (hb hby d6_9) (by decide) k) ?_
    show own_Fin p.tables e below _ (T1.setTop (mkF m 10 #[.val (.ref r0)] [(.int (0 : Int32)), (.ref r0)]))
    obtain ⟨Ex3, cx3, -, tx3, kx3, -, Cx3, Vx3, Ax3⟩ := id S1
    obtain ⟨_, T3, L3, X3, ⟨rfl, hL3, e3⟩, st3⟩ := own_callVB X1 hx hZ hown (hw _ (List.mem_of_getElem? (i := 100) rfl)) (hw _ (List.mem_of_getElem? (i := 101) rfl)) (hw _ (List.mem_of_getElem? (i := 103) rfl)) (hw _ (List.mem_of_getElem? (i := 102) rfl)) (by decide) (W := 0) (kc := 0) (kn := 0) (Qb := fun v U L => v = some (.int (c1.getD 0 0)) ∧ L = [] ∧ U.heap = h0) (StrChars.Road.chN (W := 0) hZ hwc (kI := 4) (hw _ (List.mem_of_getElem? (i := 9) rfl)) Ex3 Vx3 Cx3 Ax3 (StrChars.Road.codOf rfl (fun c hc => (cx3.1 c hc).2)) (own_up cx3.1) (SC.ext O0.2) hz (SF.ext O0.2) rf cx3.2 (i := 0) (own_len1 S1.2.1 hc2) rfl (by decide) (by decide)) e1 Ex3 (g := (mkF m 10 #[.val (.ref r0)] [(.int (0 : Int32)), (.ref r0)])) rfl (by rw [hml]; rfl) (argsL := [(.int (0 : Int32))]) (rest := []) rfl (lenOf pd0 rfl) rfl (by show 2 * 0 + _ ≤ _; exact Nat.le_of_eq rfl) (hb hby d6_10) (by decide) (by decide)
    have N3 := Fr.app N1 (hL3 ▸ Fr.nil n0)
    refine own_go st3 ?_
    show own_Fin p.tables e below _ (T3.setTop (mkF m 13 #[.val (.ref r0)] [(.int (c1.getD 0 0))]))
    refine own_go (fun _ k => XT.bipushV X3.here hx rfl (42 : Int32) (hb hby d6_13) (by decide) k) ?_
    show own_Fin p.tables e below _ (T3.setTop (mkF m 15 #[.val (.ref r0)] [(.int (42 : Int32)), (.int (c1.getD 0 0))]))
    by_cases hc4 : (c1.getD 0 0) = (42 : Int32)
    · refine own_go (fun _ k => XS.icmpNo X3.here hx rfl (hb hby d6_15) rfl (XT.ii_ne_f hc4) k) ?_
      show own_Fin p.tables e below _ (T3.setTop (mkF m 18 #[.val (.ref r0)] []))
      refine own_go (fun _ k => XT.iconstV X3.here hx rfl (1 : Int32) (hb hby d6_18) (by decide) k) ?_
      show own_Fin p.tables e below _ (T3.setTop (mkF m 19 #[.val (.ref r0)] [(.int (1 : Int32))]))
      refine own_go (fun _ k => XS.goto X3.here hx rfl (pc0 := 19) (pc' := 23) rfl (hb hby d6_19) (by decide) (by decide) k) ?_
      show own_Fin p.tables e below _ (T3.setTop (mkF m 23 #[.val (.ref r0)] [(.int (1 : Int32))]))
      refine own_retN X3 hx hlk (t := .boolean) hret (by simp) (hb hby d6_23) ?_ (by decide) (by decide)
      exact ⟨by rw [show f6 c1 = (1 : Int32) from by simp only [f6, if_pos hc2, if_pos hc4]] <;> rfl, N3, e3⟩
    · refine own_go (fun _ k => XS.icmpYes X3.here hx rfl (pc0 := 15) (pc' := 22) rfl (hb hby d6_15) rfl (XT.ii_ne_t hc4) (by decide) (by decide) k) ?_
      show own_Fin p.tables e below _ (T3.setTop (mkF m 22 #[.val (.ref r0)] []))
      refine own_go (fun _ k => XT.iconstV X3.here hx rfl (0 : Int32) (hb hby d6_22) (by decide) k) ?_
      show own_Fin p.tables e below _ (T3.setTop (mkF m 23 #[.val (.ref r0)] [(.int (0 : Int32))]))
      refine own_retN X3 hx hlk (t := .boolean) hret (by simp) (hb hby d6_23) ?_ (by decide) (by decide)
      exact ⟨by rw [show f6 c1 = (0 : Int32) from by simp only [f6, if_pos hc2, if_neg hc4]] <;> rfl, N3, e3⟩
  · refine own_go (fun _ k => XS.icmpYes X1.here hx rfl (pc0 := 5) (pc' := 22) rfl (hb hby d6_5) rfl (XT.ii_ne_t hc2) (by decide) (by decide) k) ?_
    show own_Fin p.tables e below _ (T1.setTop (mkF m 22 #[.val (.ref r0)] []))
    refine own_go (fun _ k => XT.iconstV X1.here hx rfl (0 : Int32) (hb hby d6_22) (by decide) k) ?_
    show own_Fin p.tables e below _ (T1.setTop (mkF m 23 #[.val (.ref r0)] [(.int (0 : Int32))]))
    refine own_retN X1 hx hlk (t := .boolean) hret (by simp) (hb hby d6_23) ?_ (by decide) (by decide)
    exact ⟨by rw [show f6 c1 = (0 : Int32) from by simp only [f6, if_neg hc2]] <;> rfl, N1, e1⟩
theorem d7_0 : decode method_6_code 0 = .ok (.aload_n 0, 1) := by decide +kernel
theorem d7_1 : decode method_6_code 1 = .ok (.invokevirtual 45, 3) := by decide +kernel
theorem d7_4 : decode method_6_code 4 = .ok (.aload_n 1, 1) := by decide +kernel
theorem d7_5 : decode method_6_code 5 = .ok (.invokevirtual 45, 3) := by decide +kernel
theorem d7_8 : decode method_6_code 8 = .ok (.if_icmp .eq 5, 3) := by decide +kernel
theorem d7_11 : decode method_6_code 11 = .ok (.iconst 0, 1) := by decide +kernel
theorem d7_12 : decode method_6_code 12 = .ok (.ireturn, 1) := by decide +kernel
theorem d7_13 : decode method_6_code 13 = .ok (.aload_n 0, 1) := by decide +kernel
theorem d7_14 : decode method_6_code 14 = .ok (.invokevirtual 45, 3) := by decide +kernel
theorem d7_17 : decode method_6_code 17 = .ok (.istore_n 2, 1) := by decide +kernel
theorem d7_18 : decode method_6_code 18 = .ok (.iload_n 2, 1) := by decide +kernel
theorem d7_19 : decode method_6_code 19 = .ok (.ifCond .le 18, 3) := by decide +kernel
theorem d7_22 : decode method_6_code 22 = .ok (.aload_n 0, 1) := by decide +kernel
theorem d7_23 : decode method_6_code 23 = .ok (.iconst 0, 1) := by decide +kernel
theorem d7_24 : decode method_6_code 24 = .ok (.invokevirtual 49, 3) := by decide +kernel
theorem d7_27 : decode method_6_code 27 = .ok (.aload_n 1, 1) := by decide +kernel
theorem d7_28 : decode method_6_code 28 = .ok (.iconst 0, 1) := by decide +kernel
theorem d7_29 : decode method_6_code 29 = .ok (.invokevirtual 49, 3) := by decide +kernel
theorem d7_32 : decode method_6_code 32 = .ok (.if_icmp .eq 5, 3) := by decide +kernel
theorem d7_35 : decode method_6_code 35 = .ok (.iconst 0, 1) := by decide +kernel
theorem d7_36 : decode method_6_code 36 = .ok (.ireturn, 1) := by decide +kernel
theorem d7_37 : decode method_6_code 37 = .ok (.iload_n 2, 1) := by decide +kernel
theorem d7_38 : decode method_6_code 38 = .ok (.iconst 1, 1) := by decide +kernel
theorem d7_39 : decode method_6_code 39 = .ok (.if_icmp .le 18, 3) := by decide +kernel
theorem d7_42 : decode method_6_code 42 = .ok (.aload_n 0, 1) := by decide +kernel
theorem d7_43 : decode method_6_code 43 = .ok (.iconst 1, 1) := by decide +kernel
theorem d7_44 : decode method_6_code 44 = .ok (.invokevirtual 49, 3) := by decide +kernel
theorem d7_47 : decode method_6_code 47 = .ok (.aload_n 1, 1) := by decide +kernel
theorem d7_48 : decode method_6_code 48 = .ok (.iconst 1, 1) := by decide +kernel
theorem d7_49 : decode method_6_code 49 = .ok (.invokevirtual 49, 3) := by decide +kernel
theorem d7_52 : decode method_6_code 52 = .ok (.if_icmp .eq 5, 3) := by decide +kernel
theorem d7_55 : decode method_6_code 55 = .ok (.iconst 0, 1) := by decide +kernel
theorem d7_56 : decode method_6_code 56 = .ok (.ireturn, 1) := by decide +kernel
theorem d7_57 : decode method_6_code 57 = .ok (.iload_n 2, 1) := by decide +kernel
theorem d7_58 : decode method_6_code 58 = .ok (.iconst 2, 1) := by decide +kernel
theorem d7_59 : decode method_6_code 59 = .ok (.if_icmp .le 18, 3) := by decide +kernel
theorem d7_62 : decode method_6_code 62 = .ok (.aload_n 0, 1) := by decide +kernel
theorem d7_63 : decode method_6_code 63 = .ok (.iconst 2, 1) := by decide +kernel
theorem d7_64 : decode method_6_code 64 = .ok (.invokevirtual 49, 3) := by decide +kernel
theorem d7_67 : decode method_6_code 67 = .ok (.aload_n 1, 1) := by decide +kernel
theorem d7_68 : decode method_6_code 68 = .ok (.iconst 2, 1) := by decide +kernel
theorem d7_69 : decode method_6_code 69 = .ok (.invokevirtual 49, 3) := by decide +kernel
theorem d7_72 : decode method_6_code 72 = .ok (.if_icmp .eq 5, 3) := by decide +kernel
theorem d7_75 : decode method_6_code 75 = .ok (.iconst 0, 1) := by decide +kernel
theorem d7_76 : decode method_6_code 76 = .ok (.ireturn, 1) := by decide +kernel
theorem d7_77 : decode method_6_code 77 = .ok (.iconst 1, 1) := by decide +kernel
theorem d7_78 : decode method_6_code 78 = .ok (.ireturn, 1) := by decide +kernel
theorem pd7 : parseMethodDescriptor "(Ljava/lang/String;Ljava/lang/String;)Z" = some ⟨[(.object "java/lang/String"), (.object "java/lang/String")], some .boolean⟩ := by decide +kernel
theorem ef7 (m : MethodId) (r0 : Addr) (r1 : Addr) : entryFrame m #[(.ref r0), (.ref r1)] 3 = mkF m 0 #[.val (.ref r0), .val (.ref r1), .unset] [] := by first | (simp [entryFrame, mkF, argsToLocals, Value.category]; done) | rfl
def f7 (c1 : List Int32) (c2 : List Int32) : Int32 := (if (Int32.ofNat c1.length) = (Int32.ofNat c2.length) then (if (0 : Int32) < (Int32.ofNat c1.length) then (if (c1.getD 0 0) = (c2.getD 0 0) then (if (1 : Int32) < (Int32.ofNat c1.length) then (if (c1.getD 1 0) = (c2.getD 1 0) then (if (2 : Int32) < (Int32.ofNat c1.length) then (if (c1.getD 2 0) = (c2.getD 2 0) then (1 : Int32) else (0 : Int32)) else (1 : Int32)) else (0 : Int32)) else (if (2 : Int32) < (Int32.ofNat c1.length) then (if (c1.getD 2 0) = (c2.getD 2 0) then (1 : Int32) else (0 : Int32)) else (1 : Int32))) else (0 : Int32)) else (if (1 : Int32) < (Int32.ofNat c1.length) then (if (c1.getD 1 0) = (c2.getD 1 0) then (if (2 : Int32) < (Int32.ofNat c1.length) then (if (c1.getD 2 0) = (c2.getD 2 0) then (1 : Int32) else (0 : Int32)) else (1 : Int32)) else (0 : Int32)) else (if (2 : Int32) < (Int32.ofNat c1.length) then (if (c1.getD 2 0) = (c2.getD 2 0) then (1 : Int32) else (0 : Int32)) else (1 : Int32)))) else (0 : Int32))
set_option maxRecDepth 65536 in
set_option maxHeartbeats 40000000 in
theorem rm7 (l : Launch) (Z : State) (a0 : Array Value) (hw : ∀ d ∈ tables_1, d.before a0 Z = true) (ws : List Jvm.Cond) (r0 : Addr) (r1 : Addr) (h0 : Heap) (n0 : Nat) (Z0 : n0 ≤ h0.size) (c1 : List Int32) (c2 : List Int32) (B1 : Nat) (B2 : Nat) (S1 : own_Str Z h0 r0 c1 B1) (S2 : own_Str Z h0 r1 c2 B2) (ic : Int32) (SC : Sta Z Z.heap "java/lang/String" "COMPACT_STRINGS" "Z" (.int ic)) (hz : ¬ ic = 0) (O0 : Old Z n0 h0) (fm : Value) (SF : Sta Z Z.heap "jdk/internal/util/Preconditions" "SIOOBE_FORMATTER" "Ljava/util/function/BiFunction;" fm) (rf : fm.isRef = true) :
    own_Met l (⟨"com/example/grantline/grantline/eval/OwnerCoversPinLaw", "same", "(Ljava/lang/String;Ljava/lang/String;)Z"⟩ : MethodName) method_6_code 3 (some .boolean) ({ frames := 4, cells := 0, slots := 0, locals := 54 } : Room) ws #[(.ref r0), (.ref r1)] Z h0 0 0 (own_QP (some (.int (f7 c1 c2))) h0 n0) := by
  refine own_met (plainFor_of_name pn0) ?_
  intro p e s m below meth c s₁ hx hby hml hown hnm hret hlk hZ e0 X0
  have hml : c.maxLocals = 3 := hml
  have N0 := Fr.nil n0
  have K0 := Keep.refl h0 []
  have hwl : ∀ d ∈ StrChars.Road.wordsLen, d.before a0 Z = true := fun d hd => hw d ((by decide +kernel : ∀ d ∈ StrChars.Road.wordsLen, d ∈ tables_1) d hd)
  have hwc : ∀ d ∈ StrChars.Road.wordsChN, d.before a0 Z = true := fun d hd => hw d ((by decide +kernel : ∀ d ∈ StrChars.Road.wordsChN, d ∈ tables_1) d hd)
  refine own_go (fun _ k => castTop (ef7 m r0 r1) k) ?_
  show own_Fin p.tables e below _ (s₁.setTop (mkF m 0 #[.val (.ref r0), .val (.ref r1), .unset] []))
  refine own_go (fun _ k => XS.aloadN X0.here hx rfl (hb hby d7_0) rfl rfl k) ?_
  show own_Fin p.tables e below _ (s₁.setTop (mkF m 1 #[.val (.ref r0), .val (.ref r1), .unset] [(.ref r0)]))
  obtain ⟨Ex1, cx1, -, tx1, kx1, -, Cx1, Vx1, Ax1⟩ := id S1
  obtain ⟨_, T1, L1, X1, ⟨rfl, hL1, e1⟩, st1⟩ := own_callVB X0 hx hZ hown (hw _ (List.mem_of_getElem? (i := 73) rfl)) (hw _ (List.mem_of_getElem? (i := 74) rfl)) (hw _ (List.mem_of_getElem? (i := 76) rfl)) (hw _ (List.mem_of_getElem? (i := 75) rfl)) (by decide) (W := 0) (kc := 0) (kn := 0) (Qb := fun v U L => v = some (.int (Int32.ofNat c1.length)) ∧ L = [] ∧ U.heap = h0) (StrChars.Road.lenW (W := 0) hZ hwl (kI := 4) (hw _ (List.mem_of_getElem? (i := 9) rfl)) Ex1 Vx1 Cx1 Ax1 (StrChars.Road.codOf rfl (fun c hc => (cx1.1 c hc).2)) (own_up cx1.1) (SC.ext O0.2) hz cx1.2 (by decide) (by decide)) e0 Ex1 (g := (mkF m 1 #[.val (.ref r0), .val (.ref r1), .unset] [(.ref r0)])) rfl (by rw [hml]; rfl) (argsL := []) (rest := []) rfl (lenOf pd5 rfl) rfl (by show 2 * 0 + _ ≤ _; exact Nat.le_of_eq rfl) (hb hby d7_1) (by decide) (by decide)
  have N1 := Fr.app N0 (hL1 ▸ Fr.nil n0)
  refine own_go st1 ?_
  show own_Fin p.tables e below _ (T1.setTop (mkF m 4 #[.val (.ref r0), .val (.ref r1), .unset] [(.int (Int32.ofNat c1.length))]))
  refine own_go (fun _ k => XS.aloadN X1.here hx rfl (hb hby d7_4) rfl rfl k) ?_
  show own_Fin p.tables e below _ (T1.setTop (mkF m 5 #[.val (.ref r0), .val (.ref r1), .unset] [(.ref r1), (.int (Int32.ofNat c1.length))]))
  obtain ⟨Ex2, cx2, -, tx2, kx2, -, Cx2, Vx2, Ax2⟩ := id S2
  obtain ⟨_, T2, L2, X2, ⟨rfl, hL2, e2⟩, st2⟩ := own_callVB X1 hx hZ hown (hw _ (List.mem_of_getElem? (i := 73) rfl)) (hw _ (List.mem_of_getElem? (i := 74) rfl)) (hw _ (List.mem_of_getElem? (i := 76) rfl)) (hw _ (List.mem_of_getElem? (i := 75) rfl)) (by decide) (W := 1) (kc := 0) (kn := 0) (Qb := fun v U L => v = some (.int (Int32.ofNat c2.length)) ∧ L = [] ∧ U.heap = h0) (StrChars.Road.lenW (W := 1) hZ hwl (kI := 4) (hw _ (List.mem_of_getElem? (i := 9) rfl)) Ex2 Vx2 Cx2 Ax2 (StrChars.Road.codOf rfl (fun c hc => (cx2.1 c hc).2)) (own_up cx2.1) (SC.ext O0.2) hz cx2.2 (by decide) (by decide)) e1 Ex2 (g := (mkF m 5 #[.val (.ref r0), .val (.ref r1), .unset] [(.ref r1), (.int (Int32.ofNat c1.length))])) rfl (by rw [hml]; rfl) (argsL := []) (rest := [(.int (Int32.ofNat c1.length))]) rfl (lenOf pd5 rfl) rfl (by show 2 * 0 + _ ≤ _; exact Nat.le_of_eq rfl) (hb hby d7_5) (by decide) (by decide)
  have N2 := Fr.app N1 (hL2 ▸ Fr.nil n0)
  refine own_go st2 ?_
  show own_Fin p.tables e below _ (T2.setTop (mkF m 8 #[.val (.ref r0), .val (.ref r1), .unset] [(.int (Int32.ofNat c2.length)), (.int (Int32.ofNat c1.length))]))
  by_cases hc3 : (Int32.ofNat c1.length) = (Int32.ofNat c2.length)
  · refine own_go (fun _ k => XS.icmpYes X2.here hx rfl (pc0 := 8) (pc' := 13) rfl (hb hby d7_8) rfl (XT.ii_eq_t hc3) (by decide) (by decide) k) ?_
    show own_Fin p.tables e below _ (T2.setTop (mkF m 13 #[.val (.ref r0), .val (.ref r1), .unset] []))
    refine own_go (fun _ k => XS.aloadN X2.here hx rfl (hb hby d7_13) rfl rfl k) ?_
    show own_Fin p.tables e below _ (T2.setTop (mkF m 14 #[.val (.ref r0), .val (.ref r1), .unset] [(.ref r0)]))
    obtain ⟨Ex4, cx4, -, tx4, kx4, -, Cx4, Vx4, Ax4⟩ := id S1
    obtain ⟨_, T4, L4, X4, ⟨rfl, hL4, e4⟩, st4⟩ := own_callVB X2 hx hZ hown (hw _ (List.mem_of_getElem? (i := 73) rfl)) (hw _ (List.mem_of_getElem? (i := 74) rfl)) (hw _ (List.mem_of_getElem? (i := 76) rfl)) (hw _ (List.mem_of_getElem? (i := 75) rfl)) (by decide) (W := 0) (kc := 0) (kn := 0) (Qb := fun v U L => v = some (.int (Int32.ofNat c1.length)) ∧ L = [] ∧ U.heap = h0) (StrChars.Road.lenW (W := 0) hZ hwl (kI := 4) (hw _ (List.mem_of_getElem? (i := 9) rfl)) Ex4 Vx4 Cx4 Ax4 (StrChars.Road.codOf rfl (fun c hc => (cx4.1 c hc).2)) (own_up cx4.1) (SC.ext O0.2) hz cx4.2 (by decide) (by decide)) e2 Ex4 (g := (mkF m 14 #[.val (.ref r0), .val (.ref r1), .unset] [(.ref r0)])) rfl (by rw [hml]; rfl) (argsL := []) (rest := []) rfl (lenOf pd5 rfl) rfl (by show 2 * 0 + _ ≤ _; exact Nat.le_of_eq rfl) (hb hby d7_14) (by decide) (by decide)
    have N4 := Fr.app N2 (hL4 ▸ Fr.nil n0)
    refine own_go st4 ?_
    show own_Fin p.tables e below _ (T4.setTop (mkF m 17 #[.val (.ref r0), .val (.ref r1), .unset] [(.int (Int32.ofNat c1.length))]))
    refine own_go (fun _ k => XS.istoreN X4.here hx rfl (hb hby d7_17) rfl (l' := #[.val (.ref r0), .val (.ref r1), .val (.int (Int32.ofNat c1.length))]) rfl k) ?_
    show own_Fin p.tables e below _ (T4.setTop (mkF m 18 #[.val (.ref r0), .val (.ref r1), .val (.int (Int32.ofNat c1.length))] []))
    refine own_go (fun _ k => XS.iloadN X4.here hx rfl (hb hby d7_18) rfl k) ?_
    show own_Fin p.tables e below _ (T4.setTop (mkF m 19 #[.val (.ref r0), .val (.ref r1), .val (.int (Int32.ofNat c1.length))] [(.int (Int32.ofNat c1.length))]))
    by_cases hc5 : (0 : Int32) < (Int32.ofNat c1.length)
    · refine own_go (fun _ k => XS.ifNo X4.here hx rfl (hb hby d7_19) rfl (XT.i0_le_f hc5) k) ?_
      show own_Fin p.tables e below _ (T4.setTop (mkF m 22 #[.val (.ref r0), .val (.ref r1), .val (.int (Int32.ofNat c1.length))] []))
      refine own_go (fun _ k => XS.aloadN X4.here hx rfl (hb hby d7_22) rfl rfl k) ?_
      show own_Fin p.tables e below _ (T4.setTop (mkF m 23 #[.val (.ref r0), .val (.ref r1), .val (.int (Int32.ofNat c1.length))] [(.ref r0)]))
      refine own_go (fun _ k => XT.iconstV X4.here hx rfl (0 : Int32) (hb hby d7_23) (by decide) k) ?_
      show own_Fin p.tables e below _ (T4.setTop (mkF m 24 #[.val (.ref r0), .val (.ref r1), .val (.int (Int32.ofNat c1.length))] [(.int (0 : Int32)), (.ref r0)]))
      obtain ⟨Ex6, cx6, -, tx6, kx6, -, Cx6, Vx6, Ax6⟩ := id S1
      obtain ⟨_, T6, L6, X6, ⟨rfl, hL6, e6⟩, st6⟩ := own_callVB X4 hx hZ hown (hw _ (List.mem_of_getElem? (i := 100) rfl)) (hw _ (List.mem_of_getElem? (i := 101) rfl)) (hw _ (List.mem_of_getElem? (i := 103) rfl)) (hw _ (List.mem_of_getElem? (i := 102) rfl)) (by decide) (W := 0) (kc := 0) (kn := 0) (Qb := fun v U L => v = some (.int (c1.getD 0 0)) ∧ L = [] ∧ U.heap = h0) (StrChars.Road.chN (W := 0) hZ hwc (kI := 4) (hw _ (List.mem_of_getElem? (i := 9) rfl)) Ex6 Vx6 Cx6 Ax6 (StrChars.Road.codOf rfl (fun c hc => (cx6.1 c hc).2)) (own_up cx6.1) (SC.ext O0.2) hz (SF.ext O0.2) rf cx6.2 (i := 0) (own_ltn S1.2.1 0 (by decide) hc5) rfl (by decide) (by decide)) e4 Ex6 (g := (mkF m 24 #[.val (.ref r0), .val (.ref r1), .val (.int (Int32.ofNat c1.length))] [(.int (0 : Int32)), (.ref r0)])) rfl (by rw [hml]; rfl) (argsL := [(.int (0 : Int32))]) (rest := []) rfl (lenOf pd0 rfl) rfl (by show 2 * 0 + _ ≤ _; exact Nat.le_of_eq rfl) (hb hby d7_24) (by decide) (by decide)
      have N6 := Fr.app N4 (hL6 ▸ Fr.nil n0)
      refine own_go st6 ?_
      show own_Fin p.tables e below _ (T6.setTop (mkF m 27 #[.val (.ref r0), .val (.ref r1), .val (.int (Int32.ofNat c1.length))] [(.int (c1.getD 0 0))]))
      refine own_go (fun _ k => XS.aloadN X6.here hx rfl (hb hby d7_27) rfl rfl k) ?_
      show own_Fin p.tables e below _ (T6.setTop (mkF m 28 #[.val (.ref r0), .val (.ref r1), .val (.int (Int32.ofNat c1.length))] [(.ref r1), (.int (c1.getD 0 0))]))
      refine own_go (fun _ k => XT.iconstV X6.here hx rfl (0 : Int32) (hb hby d7_28) (by decide) k) ?_
      show own_Fin p.tables e below _ (T6.setTop (mkF m 29 #[.val (.ref r0), .val (.ref r1), .val (.int (Int32.ofNat c1.length))] [(.int (0 : Int32)), (.ref r1), (.int (c1.getD 0 0))]))
      obtain ⟨Ex7, cx7, -, tx7, kx7, -, Cx7, Vx7, Ax7⟩ := id S2
      obtain ⟨_, T7, L7, X7, ⟨rfl, hL7, e7⟩, st7⟩ := own_callVB X6 hx hZ hown (hw _ (List.mem_of_getElem? (i := 100) rfl)) (hw _ (List.mem_of_getElem? (i := 101) rfl)) (hw _ (List.mem_of_getElem? (i := 103) rfl)) (hw _ (List.mem_of_getElem? (i := 102) rfl)) (by decide) (W := 1) (kc := 0) (kn := 0) (Qb := fun v U L => v = some (.int (c2.getD 0 0)) ∧ L = [] ∧ U.heap = h0) (StrChars.Road.chN (W := 1) hZ hwc (kI := 4) (hw _ (List.mem_of_getElem? (i := 9) rfl)) Ex7 Vx7 Cx7 Ax7 (StrChars.Road.codOf rfl (fun c hc => (cx7.1 c hc).2)) (own_up cx7.1) (SC.ext O0.2) hz (SF.ext O0.2) rf cx7.2 (i := 0) (own_leq S1.2.1 S2.2.1 hc3 ▸ (own_ltn S1.2.1 0 (by decide) hc5)) rfl (by decide) (by decide)) e6 Ex7 (g := (mkF m 29 #[.val (.ref r0), .val (.ref r1), .val (.int (Int32.ofNat c1.length))] [(.int (0 : Int32)), (.ref r1), (.int (c1.getD 0 0))])) rfl (by rw [hml]; rfl) (argsL := [(.int (0 : Int32))]) (rest := [(.int (c1.getD 0 0))]) rfl (lenOf pd0 rfl) rfl (by show 2 * 0 + _ ≤ _; exact Nat.le_of_eq rfl) (hb hby d7_29) (by decide) (by decide)
      have N7 := Fr.app N6 (hL7 ▸ Fr.nil n0)
      refine own_go st7 ?_
      show own_Fin p.tables e below _ (T7.setTop (mkF m 32 #[.val (.ref r0), .val (.ref r1), .val (.int (Int32.ofNat c1.length))] [(.int (c2.getD 0 0)), (.int (c1.getD 0 0))]))
      by_cases hc8 : (c1.getD 0 0) = (c2.getD 0 0)
      · refine own_go (fun _ k => XS.icmpYes X7.here hx rfl (pc0 := 32) (pc' := 37) rfl (hb hby d7_32) rfl (XT.ii_eq_t hc8) (by decide) (by decide) k) ?_
        show own_Fin p.tables e below _ (T7.setTop (mkF m 37 #[.val (.ref r0), .val (.ref r1), .val (.int (Int32.ofNat c1.length))] []))
        refine own_go (fun _ k => XS.iloadN X7.here hx rfl (hb hby d7_37) rfl k) ?_
        show own_Fin p.tables e below _ (T7.setTop (mkF m 38 #[.val (.ref r0), .val (.ref r1), .val (.int (Int32.ofNat c1.length))] [(.int (Int32.ofNat c1.length))]))
        refine own_go (fun _ k => XT.iconstV X7.here hx rfl (1 : Int32) (hb hby d7_38) (by decide) k) ?_
        show own_Fin p.tables e below _ (T7.setTop (mkF m 39 #[.val (.ref r0), .val (.ref r1), .val (.int (Int32.ofNat c1.length))] [(.int (1 : Int32)), (.int (Int32.ofNat c1.length))]))
        by_cases hc9 : (1 : Int32) < (Int32.ofNat c1.length)
        · refine own_go (fun _ k => XS.icmpNo X7.here hx rfl (hb hby d7_39) rfl (XT.ii_le_f hc9) k) ?_
          show own_Fin p.tables e below _ (T7.setTop (mkF m 42 #[.val (.ref r0), .val (.ref r1), .val (.int (Int32.ofNat c1.length))] []))
          refine own_go (fun _ k => XS.aloadN X7.here hx rfl (hb hby d7_42) rfl rfl k) ?_
          show own_Fin p.tables e below _ (T7.setTop (mkF m 43 #[.val (.ref r0), .val (.ref r1), .val (.int (Int32.ofNat c1.length))] [(.ref r0)]))
          refine own_go (fun _ k => XT.iconstV X7.here hx rfl (1 : Int32) (hb hby d7_43) (by decide) k) ?_
          show own_Fin p.tables e below _ (T7.setTop (mkF m 44 #[.val (.ref r0), .val (.ref r1), .val (.int (Int32.ofNat c1.length))] [(.int (1 : Int32)), (.ref r0)]))
          obtain ⟨Ex10, cx10, -, tx10, kx10, -, Cx10, Vx10, Ax10⟩ := id S1
          obtain ⟨_, T10, L10, X10, ⟨rfl, hL10, e10⟩, st10⟩ := own_callVB X7 hx hZ hown (hw _ (List.mem_of_getElem? (i := 100) rfl)) (hw _ (List.mem_of_getElem? (i := 101) rfl)) (hw _ (List.mem_of_getElem? (i := 103) rfl)) (hw _ (List.mem_of_getElem? (i := 102) rfl)) (by decide) (W := 0) (kc := 0) (kn := 0) (Qb := fun v U L => v = some (.int (c1.getD 1 0)) ∧ L = [] ∧ U.heap = h0) (StrChars.Road.chN (W := 0) hZ hwc (kI := 4) (hw _ (List.mem_of_getElem? (i := 9) rfl)) Ex10 Vx10 Cx10 Ax10 (StrChars.Road.codOf rfl (fun c hc => (cx10.1 c hc).2)) (own_up cx10.1) (SC.ext O0.2) hz (SF.ext O0.2) rf cx10.2 (i := 1) (own_ltn S1.2.1 1 (by decide) hc9) rfl (by decide) (by decide)) e7 Ex10 (g := (mkF m 44 #[.val (.ref r0), .val (.ref r1), .val (.int (Int32.ofNat c1.length))] [(.int (1 : Int32)), (.ref r0)])) rfl (by rw [hml]; rfl) (argsL := [(.int (1 : Int32))]) (rest := []) rfl (lenOf pd0 rfl) rfl (by show 2 * 0 + _ ≤ _; exact Nat.le_of_eq rfl) (hb hby d7_44) (by decide) (by decide)
          have N10 := Fr.app N7 (hL10 ▸ Fr.nil n0)
          refine own_go st10 ?_
          show own_Fin p.tables e below _ (T10.setTop (mkF m 47 #[.val (.ref r0), .val (.ref r1), .val (.int (Int32.ofNat c1.length))] [(.int (c1.getD 1 0))]))
          refine own_go (fun _ k => XS.aloadN X10.here hx rfl (hb hby d7_47) rfl rfl k) ?_
          show own_Fin p.tables e below _ (T10.setTop (mkF m 48 #[.val (.ref r0), .val (.ref r1), .val (.int (Int32.ofNat c1.length))] [(.ref r1), (.int (c1.getD 1 0))]))
          refine own_go (fun _ k => XT.iconstV X10.here hx rfl (1 : Int32) (hb hby d7_48) (by decide) k) ?_
          show own_Fin p.tables e below _ (T10.setTop (mkF m 49 #[.val (.ref r0), .val (.ref r1), .val (.int (Int32.ofNat c1.length))] [(.int (1 : Int32)), (.ref r1), (.int (c1.getD 1 0))]))
          obtain ⟨Ex11, cx11, -, tx11, kx11, -, Cx11, Vx11, Ax11⟩ := id S2
          obtain ⟨_, T11, L11, X11, ⟨rfl, hL11, e11⟩, st11⟩ := own_callVB X10 hx hZ hown (hw _ (List.mem_of_getElem? (i := 100) rfl)) (hw _ (List.mem_of_getElem? (i := 101) rfl)) (hw _ (List.mem_of_getElem? (i := 103) rfl)) (hw _ (List.mem_of_getElem? (i := 102) rfl)) (by decide) (W := 1) (kc := 0) (kn := 0) (Qb := fun v U L => v = some (.int (c2.getD 1 0)) ∧ L = [] ∧ U.heap = h0) (StrChars.Road.chN (W := 1) hZ hwc (kI := 4) (hw _ (List.mem_of_getElem? (i := 9) rfl)) Ex11 Vx11 Cx11 Ax11 (StrChars.Road.codOf rfl (fun c hc => (cx11.1 c hc).2)) (own_up cx11.1) (SC.ext O0.2) hz (SF.ext O0.2) rf cx11.2 (i := 1) (own_leq S1.2.1 S2.2.1 hc3 ▸ (own_ltn S1.2.1 1 (by decide) hc9)) rfl (by decide) (by decide)) e10 Ex11 (g := (mkF m 49 #[.val (.ref r0), .val (.ref r1), .val (.int (Int32.ofNat c1.length))] [(.int (1 : Int32)), (.ref r1), (.int (c1.getD 1 0))])) rfl (by rw [hml]; rfl) (argsL := [(.int (1 : Int32))]) (rest := [(.int (c1.getD 1 0))]) rfl (lenOf pd0 rfl) rfl (by show 2 * 0 + _ ≤ _; exact Nat.le_of_eq rfl) (hb hby d7_49) (by decide) (by decide)
          have N11 := Fr.app N10 (hL11 ▸ Fr.nil n0)
          refine own_go st11 ?_
          show own_Fin p.tables e below _ (T11.setTop (mkF m 52 #[.val (.ref r0), .val (.ref r1), .val (.int (Int32.ofNat c1.length))] [(.int (c2.getD 1 0)), (.int (c1.getD 1 0))]))
          by_cases hc12 : (c1.getD 1 0) = (c2.getD 1 0)
          · refine own_go (fun _ k => XS.icmpYes X11.here hx rfl (pc0 := 52) (pc' := 57) rfl (hb hby d7_52) rfl (XT.ii_eq_t hc12) (by decide) (by decide) k) ?_
            show own_Fin p.tables e below _ (T11.setTop (mkF m 57 #[.val (.ref r0), .val (.ref r1), .val (.int (Int32.ofNat c1.length))] []))
            refine own_go (fun _ k => XS.iloadN X11.here hx rfl (hb hby d7_57) rfl k) ?_
            show own_Fin p.tables e below _ (T11.setTop (mkF m 58 #[.val (.ref r0), .val (.ref r1), .val (.int (Int32.ofNat c1.length))] [(.int (Int32.ofNat c1.length))]))
            refine own_go (fun _ k => XT.iconstV X11.here hx rfl (2 : Int32) (hb hby d7_58) (by decide) k) ?_
            show own_Fin p.tables e below _ (T11.setTop (mkF m 59 #[.val (.ref r0), .val (.ref r1), .val (.int (Int32.ofNat c1.length))] [(.int (2 : Int32)), (.int (Int32.ofNat c1.length))]))
            by_cases hc13 : (2 : Int32) < (Int32.ofNat c1.length)
            · refine own_go (fun _ k => XS.icmpNo X11.here hx rfl (hb hby d7_59) rfl (XT.ii_le_f hc13) k) ?_
              show own_Fin p.tables e below _ (T11.setTop (mkF m 62 #[.val (.ref r0), .val (.ref r1), .val (.int (Int32.ofNat c1.length))] []))
              refine own_go (fun _ k => XS.aloadN X11.here hx rfl (hb hby d7_62) rfl rfl k) ?_
              show own_Fin p.tables e below _ (T11.setTop (mkF m 63 #[.val (.ref r0), .val (.ref r1), .val (.int (Int32.ofNat c1.length))] [(.ref r0)]))
              refine own_go (fun _ k => XT.iconstV X11.here hx rfl (2 : Int32) (hb hby d7_63) (by decide) k) ?_
              show own_Fin p.tables e below _ (T11.setTop (mkF m 64 #[.val (.ref r0), .val (.ref r1), .val (.int (Int32.ofNat c1.length))] [(.int (2 : Int32)), (.ref r0)]))
              obtain ⟨Ex14, cx14, -, tx14, kx14, -, Cx14, Vx14, Ax14⟩ := id S1
              obtain ⟨_, T14, L14, X14, ⟨rfl, hL14, e14⟩, st14⟩ := own_callVB X11 hx hZ hown (hw _ (List.mem_of_getElem? (i := 100) rfl)) (hw _ (List.mem_of_getElem? (i := 101) rfl)) (hw _ (List.mem_of_getElem? (i := 103) rfl)) (hw _ (List.mem_of_getElem? (i := 102) rfl)) (by decide) (W := 0) (kc := 0) (kn := 0) (Qb := fun v U L => v = some (.int (c1.getD 2 0)) ∧ L = [] ∧ U.heap = h0) (StrChars.Road.chN (W := 0) hZ hwc (kI := 4) (hw _ (List.mem_of_getElem? (i := 9) rfl)) Ex14 Vx14 Cx14 Ax14 (StrChars.Road.codOf rfl (fun c hc => (cx14.1 c hc).2)) (own_up cx14.1) (SC.ext O0.2) hz (SF.ext O0.2) rf cx14.2 (i := 2) (own_ltn S1.2.1 2 (by decide) hc13) rfl (by decide) (by decide)) e11 Ex14 (g := (mkF m 64 #[.val (.ref r0), .val (.ref r1), .val (.int (Int32.ofNat c1.length))] [(.int (2 : Int32)), (.ref r0)])) rfl (by rw [hml]; rfl) (argsL := [(.int (2 : Int32))]) (rest := []) rfl (lenOf pd0 rfl) rfl (by show 2 * 0 + _ ≤ _; exact Nat.le_of_eq rfl) (hb hby d7_64) (by decide) (by decide)
              have N14 := Fr.app N11 (hL14 ▸ Fr.nil n0)
              refine own_go st14 ?_
              show own_Fin p.tables e below _ (T14.setTop (mkF m 67 #[.val (.ref r0), .val (.ref r1), .val (.int (Int32.ofNat c1.length))] [(.int (c1.getD 2 0))]))
              refine own_go (fun _ k => XS.aloadN X14.here hx rfl (hb hby d7_67) rfl rfl k) ?_
              show own_Fin p.tables e below _ (T14.setTop (mkF m 68 #[.val (.ref r0), .val (.ref r1), .val (.int (Int32.ofNat c1.length))] [(.ref r1), (.int (c1.getD 2 0))]))
              refine own_go (fun _ k => XT.iconstV X14.here hx rfl (2 : Int32) (hb hby d7_68) (by decide) k) ?_
              show own_Fin p.tables e below _ (T14.setTop (mkF m 69 #[.val (.ref r0), .val (.ref r1), .val (.int (Int32.ofNat c1.length))] [(.int (2 : Int32)), (.ref r1), (.int (c1.getD 2 0))]))
              obtain ⟨Ex15, cx15, -, tx15, kx15, -, Cx15, Vx15, Ax15⟩ := id S2
              obtain ⟨_, T15, L15, X15, ⟨rfl, hL15, e15⟩, st15⟩ := own_callVB X14 hx hZ hown (hw _ (List.mem_of_getElem? (i := 100) rfl)) (hw _ (List.mem_of_getElem? (i := 101) rfl)) (hw _ (List.mem_of_getElem? (i := 103) rfl)) (hw _ (List.mem_of_getElem? (i := 102) rfl)) (by decide) (W := 1) (kc := 0) (kn := 0) (Qb := fun v U L => v = some (.int (c2.getD 2 0)) ∧ L = [] ∧ U.heap = h0) (StrChars.Road.chN (W := 1) hZ hwc (kI := 4) (hw _ (List.mem_of_getElem? (i := 9) rfl)) Ex15 Vx15 Cx15 Ax15 (StrChars.Road.codOf rfl (fun c hc => (cx15.1 c hc).2)) (own_up cx15.1) (SC.ext O0.2) hz (SF.ext O0.2) rf cx15.2 (i := 2) (own_leq S1.2.1 S2.2.1 hc3 ▸ (own_ltn S1.2.1 2 (by decide) hc13)) rfl (by decide) (by decide)) e14 Ex15 (g := (mkF m 69 #[.val (.ref r0), .val (.ref r1), .val (.int (Int32.ofNat c1.length))] [(.int (2 : Int32)), (.ref r1), (.int (c1.getD 2 0))])) rfl (by rw [hml]; rfl) (argsL := [(.int (2 : Int32))]) (rest := [(.int (c1.getD 2 0))]) rfl (lenOf pd0 rfl) rfl (by show 2 * 0 + _ ≤ _; exact Nat.le_of_eq rfl) (hb hby d7_69) (by decide) (by decide)
              have N15 := Fr.app N14 (hL15 ▸ Fr.nil n0)
              refine own_go st15 ?_
              show own_Fin p.tables e below _ (T15.setTop (mkF m 72 #[.val (.ref r0), .val (.ref r1), .val (.int (Int32.ofNat c1.length))] [(.int (c2.getD 2 0)), (.int (c1.getD 2 0))]))
              by_cases hc16 : (c1.getD 2 0) = (c2.getD 2 0)
              · refine own_go (fun _ k => XS.icmpYes X15.here hx rfl (pc0 := 72) (pc' := 77) rfl (hb hby d7_72) rfl (XT.ii_eq_t hc16) (by decide) (by decide) k) ?_
                show own_Fin p.tables e below _ (T15.setTop (mkF m 77 #[.val (.ref r0), .val (.ref r1), .val (.int (Int32.ofNat c1.length))] []))
                refine own_go (fun _ k => XT.iconstV X15.here hx rfl (1 : Int32) (hb hby d7_77) (by decide) k) ?_
                show own_Fin p.tables e below _ (T15.setTop (mkF m 78 #[.val (.ref r0), .val (.ref r1), .val (.int (Int32.ofNat c1.length))] [(.int (1 : Int32))]))
                refine own_retN X15 hx hlk (t := .boolean) hret (by simp) (hb hby d7_78) ?_ (by decide) (by decide)
                exact ⟨by rw [show f7 c1 c2 = (1 : Int32) from by simp only [f7, if_pos hc3, if_pos hc5, if_pos hc8, if_pos hc9, if_pos hc12, if_pos hc13, if_pos hc16]] <;> rfl, N15, e15⟩
              · refine own_go (fun _ k => XS.icmpNo X15.here hx rfl (hb hby d7_72) rfl (XT.ii_eq_f hc16) k) ?_
                show own_Fin p.tables e below _ (T15.setTop (mkF m 75 #[.val (.ref r0), .val (.ref r1), .val (.int (Int32.ofNat c1.length))] []))
                refine own_go (fun _ k => XT.iconstV X15.here hx rfl (0 : Int32) (hb hby d7_75) (by decide) k) ?_
                show own_Fin p.tables e below _ (T15.setTop (mkF m 76 #[.val (.ref r0), .val (.ref r1), .val (.int (Int32.ofNat c1.length))] [(.int (0 : Int32))]))
                refine own_retN X15 hx hlk (t := .boolean) hret (by simp) (hb hby d7_76) ?_ (by decide) (by decide)
                exact ⟨by rw [show f7 c1 c2 = (0 : Int32) from by simp only [f7, if_pos hc3, if_pos hc5, if_pos hc8, if_pos hc9, if_pos hc12, if_pos hc13, if_neg hc16]] <;> rfl, N15, e15⟩
            · refine own_go (fun _ k => XS.icmpYes X11.here hx rfl (pc0 := 59) (pc' := 77) rfl (hb hby d7_59) rfl (XT.ii_le_t hc13) (by decide) (by decide) k) ?_
              show own_Fin p.tables e below _ (T11.setTop (mkF m 77 #[.val (.ref r0), .val (.ref r1), .val (.int (Int32.ofNat c1.length))] []))
              refine own_go (fun _ k => XT.iconstV X11.here hx rfl (1 : Int32) (hb hby d7_77) (by decide) k) ?_
              show own_Fin p.tables e below _ (T11.setTop (mkF m 78 #[.val (.ref r0), .val (.ref r1), .val (.int (Int32.ofNat c1.length))] [(.int (1 : Int32))]))
              refine own_retN X11 hx hlk (t := .boolean) hret (by simp) (hb hby d7_78) ?_ (by decide) (by decide)
              exact ⟨by rw [show f7 c1 c2 = (1 : Int32) from by simp only [f7, if_pos hc3, if_pos hc5, if_pos hc8, if_pos hc9, if_pos hc12, if_neg hc13]] <;> rfl, N11, e11⟩
          · refine own_go (fun _ k => XS.icmpNo X11.here hx rfl (hb hby d7_52) rfl (XT.ii_eq_f hc12) k) ?_
            show own_Fin p.tables e below _ (T11.setTop (mkF m 55 #[.val (.ref r0), .val (.ref r1), .val (.int (Int32.ofNat c1.length))] []))
            refine own_go (fun _ k => XT.iconstV X11.here hx rfl (0 : Int32) (hb hby d7_55) (by decide) k) ?_
            show own_Fin p.tables e below _ (T11.setTop (mkF m 56 #[.val (.ref r0), .val (.ref r1), .val (.int (Int32.ofNat c1.length))] [(.int (0 : Int32))]))
            refine own_retN X11 hx hlk (t := .boolean) hret (by simp) (hb hby d7_56) ?_ (by decide) (by decide)
            exact ⟨by rw [show f7 c1 c2 = (0 : Int32) from by simp only [f7, if_pos hc3, if_pos hc5, if_pos hc8, if_pos hc9, if_neg hc12]] <;> rfl, N11, e11⟩
        · refine own_go (fun _ k => XS.icmpYes X7.here hx rfl (pc0 := 39) (pc' := 57) rfl (hb hby d7_39) rfl (XT.ii_le_t hc9) (by decide) (by decide) k) ?_
          show own_Fin p.tables e below _ (T7.setTop (mkF m 57 #[.val (.ref r0), .val (.ref r1), .val (.int (Int32.ofNat c1.length))] []))
          refine own_go (fun _ k => XS.iloadN X7.here hx rfl (hb hby d7_57) rfl k) ?_
          show own_Fin p.tables e below _ (T7.setTop (mkF m 58 #[.val (.ref r0), .val (.ref r1), .val (.int (Int32.ofNat c1.length))] [(.int (Int32.ofNat c1.length))]))
          refine own_go (fun _ k => XT.iconstV X7.here hx rfl (2 : Int32) (hb hby d7_58) (by decide) k) ?_
          show own_Fin p.tables e below _ (T7.setTop (mkF m 59 #[.val (.ref r0), .val (.ref r1), .val (.int (Int32.ofNat c1.length))] [(.int (2 : Int32)), (.int (Int32.ofNat c1.length))]))
          by_cases hc17 : (2 : Int32) < (Int32.ofNat c1.length)
          · refine own_go (fun _ k => XS.icmpNo X7.here hx rfl (hb hby d7_59) rfl (XT.ii_le_f hc17) k) ?_
            show own_Fin p.tables e below _ (T7.setTop (mkF m 62 #[.val (.ref r0), .val (.ref r1), .val (.int (Int32.ofNat c1.length))] []))
            refine own_go (fun _ k => XS.aloadN X7.here hx rfl (hb hby d7_62) rfl rfl k) ?_
            show own_Fin p.tables e below _ (T7.setTop (mkF m 63 #[.val (.ref r0), .val (.ref r1), .val (.int (Int32.ofNat c1.length))] [(.ref r0)]))
            refine own_go (fun _ k => XT.iconstV X7.here hx rfl (2 : Int32) (hb hby d7_63) (by decide) k) ?_
            show own_Fin p.tables e below _ (T7.setTop (mkF m 64 #[.val (.ref r0), .val (.ref r1), .val (.int (Int32.ofNat c1.length))] [(.int (2 : Int32)), (.ref r0)]))
            obtain ⟨Ex18, cx18, -, tx18, kx18, -, Cx18, Vx18, Ax18⟩ := id S1
            obtain ⟨_, T18, L18, X18, ⟨rfl, hL18, e18⟩, st18⟩ := own_callVB X7 hx hZ hown (hw _ (List.mem_of_getElem? (i := 100) rfl)) (hw _ (List.mem_of_getElem? (i := 101) rfl)) (hw _ (List.mem_of_getElem? (i := 103) rfl)) (hw _ (List.mem_of_getElem? (i := 102) rfl)) (by decide) (W := 0) (kc := 0) (kn := 0) (Qb := fun v U L => v = some (.int (c1.getD 2 0)) ∧ L = [] ∧ U.heap = h0) (StrChars.Road.chN (W := 0) hZ hwc (kI := 4) (hw _ (List.mem_of_getElem? (i := 9) rfl)) Ex18 Vx18 Cx18 Ax18 (StrChars.Road.codOf rfl (fun c hc => (cx18.1 c hc).2)) (own_up cx18.1) (SC.ext O0.2) hz (SF.ext O0.2) rf cx18.2 (i := 2) (own_ltn S1.2.1 2 (by decide) hc17) rfl (by decide) (by decide)) e7 Ex18 (g := (mkF m 64 #[.val (.ref r0), .val (.ref r1), .val (.int (Int32.ofNat c1.length))] [(.int (2 : Int32)), (.ref r0)])) rfl (by rw [hml]; rfl) (argsL := [(.int (2 : Int32))]) (rest := []) rfl (lenOf pd0 rfl) rfl (by show 2 * 0 + _ ≤ _; exact Nat.le_of_eq rfl) (hb hby d7_64) (by decide) (by decide)
            have N18 := Fr.app N7 (hL18 ▸ Fr.nil n0)
            refine own_go st18 ?_
            show own_Fin p.tables e below _ (T18.setTop (mkF m 67 #[.val (.ref r0), .val (.ref r1), .val (.int (Int32.ofNat c1.length))] [(.int (c1.getD 2 0))]))
            refine own_go (fun _ k => XS.aloadN X18.here hx rfl (hb hby d7_67) rfl rfl k) ?_
            show own_Fin p.tables e below _ (T18.setTop (mkF m 68 #[.val (.ref r0), .val (.ref r1), .val (.int (Int32.ofNat c1.length))] [(.ref r1), (.int (c1.getD 2 0))]))
            refine own_go (fun _ k => XT.iconstV X18.here hx rfl (2 : Int32) (hb hby d7_68) (by decide) k) ?_
            show own_Fin p.tables e below _ (T18.setTop (mkF m 69 #[.val (.ref r0), .val (.ref r1), .val (.int (Int32.ofNat c1.length))] [(.int (2 : Int32)), (.ref r1), (.int (c1.getD 2 0))]))
            obtain ⟨Ex19, cx19, -, tx19, kx19, -, Cx19, Vx19, Ax19⟩ := id S2
            obtain ⟨_, T19, L19, X19, ⟨rfl, hL19, e19⟩, st19⟩ := own_callVB X18 hx hZ hown (hw _ (List.mem_of_getElem? (i := 100) rfl)) (hw _ (List.mem_of_getElem? (i := 101) rfl)) (hw _ (List.mem_of_getElem? (i := 103) rfl)) (hw _ (List.mem_of_getElem? (i := 102) rfl)) (by decide) (W := 1) (kc := 0) (kn := 0) (Qb := fun v U L => v = some (.int (c2.getD 2 0)) ∧ L = [] ∧ U.heap = h0) (StrChars.Road.chN (W := 1) hZ hwc (kI := 4) (hw _ (List.mem_of_getElem? (i := 9) rfl)) Ex19 Vx19 Cx19 Ax19 (StrChars.Road.codOf rfl (fun c hc => (cx19.1 c hc).2)) (own_up cx19.1) (SC.ext O0.2) hz (SF.ext O0.2) rf cx19.2 (i := 2) (own_leq S1.2.1 S2.2.1 hc3 ▸ (own_ltn S1.2.1 2 (by decide) hc17)) rfl (by decide) (by decide)) e18 Ex19 (g := (mkF m 69 #[.val (.ref r0), .val (.ref r1), .val (.int (Int32.ofNat c1.length))] [(.int (2 : Int32)), (.ref r1), (.int (c1.getD 2 0))])) rfl (by rw [hml]; rfl) (argsL := [(.int (2 : Int32))]) (rest := [(.int (c1.getD 2 0))]) rfl (lenOf pd0 rfl) rfl (by show 2 * 0 + _ ≤ _; exact Nat.le_of_eq rfl) (hb hby d7_69) (by decide) (by decide)
            have N19 := Fr.app N18 (hL19 ▸ Fr.nil n0)
            refine own_go st19 ?_
            show own_Fin p.tables e below _ (T19.setTop (mkF m 72 #[.val (.ref r0), .val (.ref r1), .val (.int (Int32.ofNat c1.length))] [(.int (c2.getD 2 0)), (.int (c1.getD 2 0))]))
            by_cases hc20 : (c1.getD 2 0) = (c2.getD 2 0)
            · refine own_go (fun _ k => XS.icmpYes X19.here hx rfl (pc0 := 72) (pc' := 77) rfl (hb hby d7_72) rfl (XT.ii_eq_t hc20) (by decide) (by decide) k) ?_
              show own_Fin p.tables e below _ (T19.setTop (mkF m 77 #[.val (.ref r0), .val (.ref r1), .val (.int (Int32.ofNat c1.length))] []))
              refine own_go (fun _ k => XT.iconstV X19.here hx rfl (1 : Int32) (hb hby d7_77) (by decide) k) ?_
              show own_Fin p.tables e below _ (T19.setTop (mkF m 78 #[.val (.ref r0), .val (.ref r1), .val (.int (Int32.ofNat c1.length))] [(.int (1 : Int32))]))
              refine own_retN X19 hx hlk (t := .boolean) hret (by simp) (hb hby d7_78) ?_ (by decide) (by decide)
              exact ⟨by rw [show f7 c1 c2 = (1 : Int32) from by simp only [f7, if_pos hc3, if_pos hc5, if_pos hc8, if_neg hc9, if_pos hc17, if_pos hc20]] <;> rfl, N19, e19⟩
            · refine own_go (fun _ k => XS.icmpNo X19.here hx rfl (hb hby d7_72) rfl (XT.ii_eq_f hc20) k) ?_
              show own_Fin p.tables e below _ (T19.setTop (mkF m 75 #[.val (.ref r0), .val (.ref r1), .val (.int (Int32.ofNat c1.length))] []))
              refine own_go (fun _ k => XT.iconstV X19.here hx rfl (0 : Int32) (hb hby d7_75) (by decide) k) ?_
              show own_Fin p.tables e below _ (T19.setTop (mkF m 76 #[.val (.ref r0), .val (.ref r1), .val (.int (Int32.ofNat c1.length))] [(.int (0 : Int32))]))
              refine own_retN X19 hx hlk (t := .boolean) hret (by simp) (hb hby d7_76) ?_ (by decide) (by decide)
              exact ⟨by rw [show f7 c1 c2 = (0 : Int32) from by simp only [f7, if_pos hc3, if_pos hc5, if_pos hc8, if_neg hc9, if_pos hc17, if_neg hc20]] <;> rfl, N19, e19⟩
          · refine own_go (fun _ k => XS.icmpYes X7.here hx rfl (pc0 := 59) (pc' := 77) rfl (hb hby d7_59) rfl (XT.ii_le_t hc17) (by decide) (by decide) k) ?_
            show own_Fin p.tables e below _ (T7.setTop (mkF m 77 #[.val (.ref r0), .val (.ref r1), .val (.int (Int32.ofNat c1.length))] []))
            refine own_go (fun _ k => XT.iconstV X7.here hx rfl (1 : Int32) (hb hby d7_77) (by decide) k) ?_
            show own_Fin p.tables e below _ (T7.setTop (mkF m 78 #[.val (.ref r0), .val (.ref r1), .val (.int (Int32.ofNat c1.length))] [(.int (1 : Int32))]))
            refine own_retN X7 hx hlk (t := .boolean) hret (by simp) (hb hby d7_78) ?_ (by decide) (by decide)
            exact ⟨by rw [show f7 c1 c2 = (1 : Int32) from by simp only [f7, if_pos hc3, if_pos hc5, if_pos hc8, if_neg hc9, if_neg hc17]] <;> rfl, N7, e7⟩
      · refine own_go (fun _ k => XS.icmpNo X7.here hx rfl (hb hby d7_32) rfl (XT.ii_eq_f hc8) k) ?_
        show own_Fin p.tables e below _ (T7.setTop (mkF m 35 #[.val (.ref r0), .val (.ref r1), .val (.int (Int32.ofNat c1.length))] []))
        refine own_go (fun _ k => XT.iconstV X7.here hx rfl (0 : Int32) (hb hby d7_35) (by decide) k) ?_
        show own_Fin p.tables e below _ (T7.setTop (mkF m 36 #[.val (.ref r0), .val (.ref r1), .val (.int (Int32.ofNat c1.length))] [(.int (0 : Int32))]))
        refine own_retN X7 hx hlk (t := .boolean) hret (by simp) (hb hby d7_36) ?_ (by decide) (by decide)
        exact ⟨by rw [show f7 c1 c2 = (0 : Int32) from by simp only [f7, if_pos hc3, if_pos hc5, if_neg hc8]] <;> rfl, N7, e7⟩
    · refine own_go (fun _ k => XS.ifYes X4.here hx rfl (pc0 := 19) (pc' := 37) rfl (hb hby d7_19) rfl (XT.i0_le_t hc5) (by decide) (by decide) k) ?_
      show own_Fin p.tables e below _ (T4.setTop (mkF m 37 #[.val (.ref r0), .val (.ref r1), .val (.int (Int32.ofNat c1.length))] []))
      refine own_go (fun _ k => XS.iloadN X4.here hx rfl (hb hby d7_37) rfl k) ?_
      show own_Fin p.tables e below _ (T4.setTop (mkF m 38 #[.val (.ref r0), .val (.ref r1), .val (.int (Int32.ofNat c1.length))] [(.int (Int32.ofNat c1.length))]))
      refine own_go (fun _ k => XT.iconstV X4.here hx rfl (1 : Int32) (hb hby d7_38) (by decide) k) ?_
      show own_Fin p.tables e below _ (T4.setTop (mkF m 39 #[.val (.ref r0), .val (.ref r1), .val (.int (Int32.ofNat c1.length))] [(.int (1 : Int32)), (.int (Int32.ofNat c1.length))]))
      by_cases hc21 : (1 : Int32) < (Int32.ofNat c1.length)
      · refine own_go (fun _ k => XS.icmpNo X4.here hx rfl (hb hby d7_39) rfl (XT.ii_le_f hc21) k) ?_
        show own_Fin p.tables e below _ (T4.setTop (mkF m 42 #[.val (.ref r0), .val (.ref r1), .val (.int (Int32.ofNat c1.length))] []))
        refine own_go (fun _ k => XS.aloadN X4.here hx rfl (hb hby d7_42) rfl rfl k) ?_
        show own_Fin p.tables e below _ (T4.setTop (mkF m 43 #[.val (.ref r0), .val (.ref r1), .val (.int (Int32.ofNat c1.length))] [(.ref r0)]))
        refine own_go (fun _ k => XT.iconstV X4.here hx rfl (1 : Int32) (hb hby d7_43) (by decide) k) ?_
        show own_Fin p.tables e below _ (T4.setTop (mkF m 44 #[.val (.ref r0), .val (.ref r1), .val (.int (Int32.ofNat c1.length))] [(.int (1 : Int32)), (.ref r0)]))
        obtain ⟨Ex22, cx22, -, tx22, kx22, -, Cx22, Vx22, Ax22⟩ := id S1
        obtain ⟨_, T22, L22, X22, ⟨rfl, hL22, e22⟩, st22⟩ := own_callVB X4 hx hZ hown (hw _ (List.mem_of_getElem? (i := 100) rfl)) (hw _ (List.mem_of_getElem? (i := 101) rfl)) (hw _ (List.mem_of_getElem? (i := 103) rfl)) (hw _ (List.mem_of_getElem? (i := 102) rfl)) (by decide) (W := 0) (kc := 0) (kn := 0) (Qb := fun v U L => v = some (.int (c1.getD 1 0)) ∧ L = [] ∧ U.heap = h0) (StrChars.Road.chN (W := 0) hZ hwc (kI := 4) (hw _ (List.mem_of_getElem? (i := 9) rfl)) Ex22 Vx22 Cx22 Ax22 (StrChars.Road.codOf rfl (fun c hc => (cx22.1 c hc).2)) (own_up cx22.1) (SC.ext O0.2) hz (SF.ext O0.2) rf cx22.2 (i := 1) (own_ltn S1.2.1 1 (by decide) hc21) rfl (by decide) (by decide)) e4 Ex22 (g := (mkF m 44 #[.val (.ref r0), .val (.ref r1), .val (.int (Int32.ofNat c1.length))] [(.int (1 : Int32)), (.ref r0)])) rfl (by rw [hml]; rfl) (argsL := [(.int (1 : Int32))]) (rest := []) rfl (lenOf pd0 rfl) rfl (by show 2 * 0 + _ ≤ _; exact Nat.le_of_eq rfl) (hb hby d7_44) (by decide) (by decide)
        have N22 := Fr.app N4 (hL22 ▸ Fr.nil n0)
        refine own_go st22 ?_
        show own_Fin p.tables e below _ (T22.setTop (mkF m 47 #[.val (.ref r0), .val (.ref r1), .val (.int (Int32.ofNat c1.length))] [(.int (c1.getD 1 0))]))
        refine own_go (fun _ k => XS.aloadN X22.here hx rfl (hb hby d7_47) rfl rfl k) ?_
        show own_Fin p.tables e below _ (T22.setTop (mkF m 48 #[.val (.ref r0), .val (.ref r1), .val (.int (Int32.ofNat c1.length))] [(.ref r1), (.int (c1.getD 1 0))]))
        refine own_go (fun _ k => XT.iconstV X22.here hx rfl (1 : Int32) (hb hby d7_48) (by decide) k) ?_
        show own_Fin p.tables e below _ (T22.setTop (mkF m 49 #[.val (.ref r0), .val (.ref r1), .val (.int (Int32.ofNat c1.length))] [(.int (1 : Int32)), (.ref r1), (.int (c1.getD 1 0))]))
        obtain ⟨Ex23, cx23, -, tx23, kx23, -, Cx23, Vx23, Ax23⟩ := id S2
        obtain ⟨_, T23, L23, X23, ⟨rfl, hL23, e23⟩, st23⟩ := own_callVB X22 hx hZ hown (hw _ (List.mem_of_getElem? (i := 100) rfl)) (hw _ (List.mem_of_getElem? (i := 101) rfl)) (hw _ (List.mem_of_getElem? (i := 103) rfl)) (hw _ (List.mem_of_getElem? (i := 102) rfl)) (by decide) (W := 1) (kc := 0) (kn := 0) (Qb := fun v U L => v = some (.int (c2.getD 1 0)) ∧ L = [] ∧ U.heap = h0) (StrChars.Road.chN (W := 1) hZ hwc (kI := 4) (hw _ (List.mem_of_getElem? (i := 9) rfl)) Ex23 Vx23 Cx23 Ax23 (StrChars.Road.codOf rfl (fun c hc => (cx23.1 c hc).2)) (own_up cx23.1) (SC.ext O0.2) hz (SF.ext O0.2) rf cx23.2 (i := 1) (own_leq S1.2.1 S2.2.1 hc3 ▸ (own_ltn S1.2.1 1 (by decide) hc21)) rfl (by decide) (by decide)) e22 Ex23 (g := (mkF m 49 #[.val (.ref r0), .val (.ref r1), .val (.int (Int32.ofNat c1.length))] [(.int (1 : Int32)), (.ref r1), (.int (c1.getD 1 0))])) rfl (by rw [hml]; rfl) (argsL := [(.int (1 : Int32))]) (rest := [(.int (c1.getD 1 0))]) rfl (lenOf pd0 rfl) rfl (by show 2 * 0 + _ ≤ _; exact Nat.le_of_eq rfl) (hb hby d7_49) (by decide) (by decide)
        have N23 := Fr.app N22 (hL23 ▸ Fr.nil n0)
        refine own_go st23 ?_
        show own_Fin p.tables e below _ (T23.setTop (mkF m 52 #[.val (.ref r0), .val (.ref r1), .val (.int (Int32.ofNat c1.length))] [(.int (c2.getD 1 0)), (.int (c1.getD 1 0))]))
        by_cases hc24 : (c1.getD 1 0) = (c2.getD 1 0)
        · refine own_go (fun _ k => XS.icmpYes X23.here hx rfl (pc0 := 52) (pc' := 57) rfl (hb hby d7_52) rfl (XT.ii_eq_t hc24) (by decide) (by decide) k) ?_
          show own_Fin p.tables e below _ (T23.setTop (mkF m 57 #[.val (.ref r0), .val (.ref r1), .val (.int (Int32.ofNat c1.length))] []))
          refine own_go (fun _ k => XS.iloadN X23.here hx rfl (hb hby d7_57) rfl k) ?_
          show own_Fin p.tables e below _ (T23.setTop (mkF m 58 #[.val (.ref r0), .val (.ref r1), .val (.int (Int32.ofNat c1.length))] [(.int (Int32.ofNat c1.length))]))
          refine own_go (fun _ k => XT.iconstV X23.here hx rfl (2 : Int32) (hb hby d7_58) (by decide) k) ?_
          show own_Fin p.tables e below _ (T23.setTop (mkF m 59 #[.val (.ref r0), .val (.ref r1), .val (.int (Int32.ofNat c1.length))] [(.int (2 : Int32)), (.int (Int32.ofNat c1.length))]))
          by_cases hc25 : (2 : Int32) < (Int32.ofNat c1.length)
          · refine own_go (fun _ k => XS.icmpNo X23.here hx rfl (hb hby d7_59) rfl (XT.ii_le_f hc25) k) ?_
            show own_Fin p.tables e below _ (T23.setTop (mkF m 62 #[.val (.ref r0), .val (.ref r1), .val (.int (Int32.ofNat c1.length))] []))
            refine own_go (fun _ k => XS.aloadN X23.here hx rfl (hb hby d7_62) rfl rfl k) ?_
            show own_Fin p.tables e below _ (T23.setTop (mkF m 63 #[.val (.ref r0), .val (.ref r1), .val (.int (Int32.ofNat c1.length))] [(.ref r0)]))
            refine own_go (fun _ k => XT.iconstV X23.here hx rfl (2 : Int32) (hb hby d7_63) (by decide) k) ?_
            show own_Fin p.tables e below _ (T23.setTop (mkF m 64 #[.val (.ref r0), .val (.ref r1), .val (.int (Int32.ofNat c1.length))] [(.int (2 : Int32)), (.ref r0)]))
            obtain ⟨Ex26, cx26, -, tx26, kx26, -, Cx26, Vx26, Ax26⟩ := id S1
            obtain ⟨_, T26, L26, X26, ⟨rfl, hL26, e26⟩, st26⟩ := own_callVB X23 hx hZ hown (hw _ (List.mem_of_getElem? (i := 100) rfl)) (hw _ (List.mem_of_getElem? (i := 101) rfl)) (hw _ (List.mem_of_getElem? (i := 103) rfl)) (hw _ (List.mem_of_getElem? (i := 102) rfl)) (by decide) (W := 0) (kc := 0) (kn := 0) (Qb := fun v U L => v = some (.int (c1.getD 2 0)) ∧ L = [] ∧ U.heap = h0) (StrChars.Road.chN (W := 0) hZ hwc (kI := 4) (hw _ (List.mem_of_getElem? (i := 9) rfl)) Ex26 Vx26 Cx26 Ax26 (StrChars.Road.codOf rfl (fun c hc => (cx26.1 c hc).2)) (own_up cx26.1) (SC.ext O0.2) hz (SF.ext O0.2) rf cx26.2 (i := 2) (own_ltn S1.2.1 2 (by decide) hc25) rfl (by decide) (by decide)) e23 Ex26 (g := (mkF m 64 #[.val (.ref r0), .val (.ref r1), .val (.int (Int32.ofNat c1.length))] [(.int (2 : Int32)), (.ref r0)])) rfl (by rw [hml]; rfl) (argsL := [(.int (2 : Int32))]) (rest := []) rfl (lenOf pd0 rfl) rfl (by show 2 * 0 + _ ≤ _; exact Nat.le_of_eq rfl) (hb hby d7_64) (by decide) (by decide)
            have N26 := Fr.app N23 (hL26 ▸ Fr.nil n0)
            refine own_go st26 ?_
            show own_Fin p.tables e below _ (T26.setTop (mkF m 67 #[.val (.ref r0), .val (.ref r1), .val (.int (Int32.ofNat c1.length))] [(.int (c1.getD 2 0))]))
            refine own_go (fun _ k => XS.aloadN X26.here hx rfl (hb hby d7_67) rfl rfl k) ?_
            show own_Fin p.tables e below _ (T26.setTop (mkF m 68 #[.val (.ref r0), .val (.ref r1), .val (.int (Int32.ofNat c1.length))] [(.ref r1), (.int (c1.getD 2 0))]))
            refine own_go (fun _ k => XT.iconstV X26.here hx rfl (2 : Int32) (hb hby d7_68) (by decide) k) ?_
            show own_Fin p.tables e below _ (T26.setTop (mkF m 69 #[.val (.ref r0), .val (.ref r1), .val (.int (Int32.ofNat c1.length))] [(.int (2 : Int32)), (.ref r1), (.int (c1.getD 2 0))]))
            obtain ⟨Ex27, cx27, -, tx27, kx27, -, Cx27, Vx27, Ax27⟩ := id S2
            obtain ⟨_, T27, L27, X27, ⟨rfl, hL27, e27⟩, st27⟩ := own_callVB X26 hx hZ hown (hw _ (List.mem_of_getElem? (i := 100) rfl)) (hw _ (List.mem_of_getElem? (i := 101) rfl)) (hw _ (List.mem_of_getElem? (i := 103) rfl)) (hw _ (List.mem_of_getElem? (i := 102) rfl)) (by decide) (W := 1) (kc := 0) (kn := 0) (Qb := fun v U L => v = some (.int (c2.getD 2 0)) ∧ L = [] ∧ U.heap = h0) (StrChars.Road.chN (W := 1) hZ hwc (kI := 4) (hw _ (List.mem_of_getElem? (i := 9) rfl)) Ex27 Vx27 Cx27 Ax27 (StrChars.Road.codOf rfl (fun c hc => (cx27.1 c hc).2)) (own_up cx27.1) (SC.ext O0.2) hz (SF.ext O0.2) rf cx27.2 (i := 2) (own_leq S1.2.1 S2.2.1 hc3 ▸ (own_ltn S1.2.1 2 (by decide) hc25)) rfl (by decide) (by decide)) e26 Ex27 (g := (mkF m 69 #[.val (.ref r0), .val (.ref r1), .val (.int (Int32.ofNat c1.length))] [(.int (2 : Int32)), (.ref r1), (.int (c1.getD 2 0))])) rfl (by rw [hml]; rfl) (argsL := [(.int (2 : Int32))]) (rest := [(.int (c1.getD 2 0))]) rfl (lenOf pd0 rfl) rfl (by show 2 * 0 + _ ≤ _; exact Nat.le_of_eq rfl) (hb hby d7_69) (by decide) (by decide)
            have N27 := Fr.app N26 (hL27 ▸ Fr.nil n0)
            refine own_go st27 ?_
            show own_Fin p.tables e below _ (T27.setTop (mkF m 72 #[.val (.ref r0), .val (.ref r1), .val (.int (Int32.ofNat c1.length))] [(.int (c2.getD 2 0)), (.int (c1.getD 2 0))]))
            by_cases hc28 : (c1.getD 2 0) = (c2.getD 2 0)
            · refine own_go (fun _ k => XS.icmpYes X27.here hx rfl (pc0 := 72) (pc' := 77) rfl (hb hby d7_72) rfl (XT.ii_eq_t hc28) (by decide) (by decide) k) ?_
              show own_Fin p.tables e below _ (T27.setTop (mkF m 77 #[.val (.ref r0), .val (.ref r1), .val (.int (Int32.ofNat c1.length))] []))
              refine own_go (fun _ k => XT.iconstV X27.here hx rfl (1 : Int32) (hb hby d7_77) (by decide) k) ?_
              show own_Fin p.tables e below _ (T27.setTop (mkF m 78 #[.val (.ref r0), .val (.ref r1), .val (.int (Int32.ofNat c1.length))] [(.int (1 : Int32))]))
              refine own_retN X27 hx hlk (t := .boolean) hret (by simp) (hb hby d7_78) ?_ (by decide) (by decide)
              exact ⟨by rw [show f7 c1 c2 = (1 : Int32) from by simp only [f7, if_pos hc3, if_neg hc5, if_pos hc21, if_pos hc24, if_pos hc25, if_pos hc28]] <;> rfl, N27, e27⟩
            · refine own_go (fun _ k => XS.icmpNo X27.here hx rfl (hb hby d7_72) rfl (XT.ii_eq_f hc28) k) ?_
              show own_Fin p.tables e below _ (T27.setTop (mkF m 75 #[.val (.ref r0), .val (.ref r1), .val (.int (Int32.ofNat c1.length))] []))
              refine own_go (fun _ k => XT.iconstV X27.here hx rfl (0 : Int32) (hb hby d7_75) (by decide) k) ?_
              show own_Fin p.tables e below _ (T27.setTop (mkF m 76 #[.val (.ref r0), .val (.ref r1), .val (.int (Int32.ofNat c1.length))] [(.int (0 : Int32))]))
              refine own_retN X27 hx hlk (t := .boolean) hret (by simp) (hb hby d7_76) ?_ (by decide) (by decide)
              exact ⟨by rw [show f7 c1 c2 = (0 : Int32) from by simp only [f7, if_pos hc3, if_neg hc5, if_pos hc21, if_pos hc24, if_pos hc25, if_neg hc28]] <;> rfl, N27, e27⟩
          · refine own_go (fun _ k => XS.icmpYes X23.here hx rfl (pc0 := 59) (pc' := 77) rfl (hb hby d7_59) rfl (XT.ii_le_t hc25) (by decide) (by decide) k) ?_
            show own_Fin p.tables e below _ (T23.setTop (mkF m 77 #[.val (.ref r0), .val (.ref r1), .val (.int (Int32.ofNat c1.length))] []))
            refine own_go (fun _ k => XT.iconstV X23.here hx rfl (1 : Int32) (hb hby d7_77) (by decide) k) ?_
            show own_Fin p.tables e below _ (T23.setTop (mkF m 78 #[.val (.ref r0), .val (.ref r1), .val (.int (Int32.ofNat c1.length))] [(.int (1 : Int32))]))
            refine own_retN X23 hx hlk (t := .boolean) hret (by simp) (hb hby d7_78) ?_ (by decide) (by decide)
            exact ⟨by rw [show f7 c1 c2 = (1 : Int32) from by simp only [f7, if_pos hc3, if_neg hc5, if_pos hc21, if_pos hc24, if_neg hc25]] <;> rfl, N23, e23⟩
        · refine own_go (fun _ k => XS.icmpNo X23.here hx rfl (hb hby d7_52) rfl (XT.ii_eq_f hc24) k) ?_
          show own_Fin p.tables e below _ (T23.setTop (mkF m 55 #[.val (.ref r0), .val (.ref r1), .val (.int (Int32.ofNat c1.length))] []))
          refine own_go (fun _ k => XT.iconstV X23.here hx rfl (0 : Int32) (hb hby d7_55) (by decide) k) ?_
          show own_Fin p.tables e below _ (T23.setTop (mkF m 56 #[.val (.ref r0), .val (.ref r1), .val (.int (Int32.ofNat c1.length))] [(.int (0 : Int32))]))
          refine own_retN X23 hx hlk (t := .boolean) hret (by simp) (hb hby d7_56) ?_ (by decide) (by decide)
          exact ⟨by rw [show f7 c1 c2 = (0 : Int32) from by simp only [f7, if_pos hc3, if_neg hc5, if_pos hc21, if_neg hc24]] <;> rfl, N23, e23⟩
      · refine own_go (fun _ k => XS.icmpYes X4.here hx rfl (pc0 := 39) (pc' := 57) rfl (hb hby d7_39) rfl (XT.ii_le_t hc21) (by decide) (by decide) k) ?_
        show own_Fin p.tables e below _ (T4.setTop (mkF m 57 #[.val (.ref r0), .val (.ref r1), .val (.int (Int32.ofNat c1.length))] []))
        refine own_go (fun _ k => XS.iloadN X4.here hx rfl (hb hby d7_57) rfl k) ?_
        show own_Fin p.tables e below _ (T4.setTop (mkF m 58 #[.val (.ref r0), .val (.ref r1), .val (.int (Int32.ofNat c1.length))] [(.int (Int32.ofNat c1.length))]))
        refine own_go (fun _ k => XT.iconstV X4.here hx rfl (2 : Int32) (hb hby d7_58) (by decide) k) ?_
        show own_Fin p.tables e below _ (T4.setTop (mkF m 59 #[.val (.ref r0), .val (.ref r1), .val (.int (Int32.ofNat c1.length))] [(.int (2 : Int32)), (.int (Int32.ofNat c1.length))]))
        by_cases hc29 : (2 : Int32) < (Int32.ofNat c1.length)
        · refine own_go (fun _ k => XS.icmpNo X4.here hx rfl (hb hby d7_59) rfl (XT.ii_le_f hc29) k) ?_
          show own_Fin p.tables e below _ (T4.setTop (mkF m 62 #[.val (.ref r0), .val (.ref r1), .val (.int (Int32.ofNat c1.length))] []))
          refine own_go (fun _ k => XS.aloadN X4.here hx rfl (hb hby d7_62) rfl rfl k) ?_
          show own_Fin p.tables e below _ (T4.setTop (mkF m 63 #[.val (.ref r0), .val (.ref r1), .val (.int (Int32.ofNat c1.length))] [(.ref r0)]))
          refine own_go (fun _ k => XT.iconstV X4.here hx rfl (2 : Int32) (hb hby d7_63) (by decide) k) ?_
          show own_Fin p.tables e below _ (T4.setTop (mkF m 64 #[.val (.ref r0), .val (.ref r1), .val (.int (Int32.ofNat c1.length))] [(.int (2 : Int32)), (.ref r0)]))
          obtain ⟨Ex30, cx30, -, tx30, kx30, -, Cx30, Vx30, Ax30⟩ := id S1
          obtain ⟨_, T30, L30, X30, ⟨rfl, hL30, e30⟩, st30⟩ := own_callVB X4 hx hZ hown (hw _ (List.mem_of_getElem? (i := 100) rfl)) (hw _ (List.mem_of_getElem? (i := 101) rfl)) (hw _ (List.mem_of_getElem? (i := 103) rfl)) (hw _ (List.mem_of_getElem? (i := 102) rfl)) (by decide) (W := 0) (kc := 0) (kn := 0) (Qb := fun v U L => v = some (.int (c1.getD 2 0)) ∧ L = [] ∧ U.heap = h0) (StrChars.Road.chN (W := 0) hZ hwc (kI := 4) (hw _ (List.mem_of_getElem? (i := 9) rfl)) Ex30 Vx30 Cx30 Ax30 (StrChars.Road.codOf rfl (fun c hc => (cx30.1 c hc).2)) (own_up cx30.1) (SC.ext O0.2) hz (SF.ext O0.2) rf cx30.2 (i := 2) (own_ltn S1.2.1 2 (by decide) hc29) rfl (by decide) (by decide)) e4 Ex30 (g := (mkF m 64 #[.val (.ref r0), .val (.ref r1), .val (.int (Int32.ofNat c1.length))] [(.int (2 : Int32)), (.ref r0)])) rfl (by rw [hml]; rfl) (argsL := [(.int (2 : Int32))]) (rest := []) rfl (lenOf pd0 rfl) rfl (by show 2 * 0 + _ ≤ _; exact Nat.le_of_eq rfl) (hb hby d7_64) (by decide) (by decide)
          have N30 := Fr.app N4 (hL30 ▸ Fr.nil n0)
          refine own_go st30 ?_
          show own_Fin p.tables e below _ (T30.setTop (mkF m 67 #[.val (.ref r0), .val (.ref r1), .val (.int (Int32.ofNat c1.length))] [(.int (c1.getD 2 0))]))
          refine own_go (fun _ k => XS.aloadN X30.here hx rfl (hb hby d7_67) rfl rfl k) ?_
          show own_Fin p.tables e below _ (T30.setTop (mkF m 68 #[.val (.ref r0), .val (.ref r1), .val (.int (Int32.ofNat c1.length))] [(.ref r1), (.int (c1.getD 2 0))]))
          refine own_go (fun _ k => XT.iconstV X30.here hx rfl (2 : Int32) (hb hby d7_68) (by decide) k) ?_
          show own_Fin p.tables e below _ (T30.setTop (mkF m 69 #[.val (.ref r0), .val (.ref r1), .val (.int (Int32.ofNat c1.length))] [(.int (2 : Int32)), (.ref r1), (.int (c1.getD 2 0))]))
          obtain ⟨Ex31, cx31, -, tx31, kx31, -, Cx31, Vx31, Ax31⟩ := id S2
          obtain ⟨_, T31, L31, X31, ⟨rfl, hL31, e31⟩, st31⟩ := own_callVB X30 hx hZ hown (hw _ (List.mem_of_getElem? (i := 100) rfl)) (hw _ (List.mem_of_getElem? (i := 101) rfl)) (hw _ (List.mem_of_getElem? (i := 103) rfl)) (hw _ (List.mem_of_getElem? (i := 102) rfl)) (by decide) (W := 1) (kc := 0) (kn := 0) (Qb := fun v U L => v = some (.int (c2.getD 2 0)) ∧ L = [] ∧ U.heap = h0) (StrChars.Road.chN (W := 1) hZ hwc (kI := 4) (hw _ (List.mem_of_getElem? (i := 9) rfl)) Ex31 Vx31 Cx31 Ax31 (StrChars.Road.codOf rfl (fun c hc => (cx31.1 c hc).2)) (own_up cx31.1) (SC.ext O0.2) hz (SF.ext O0.2) rf cx31.2 (i := 2) (own_leq S1.2.1 S2.2.1 hc3 ▸ (own_ltn S1.2.1 2 (by decide) hc29)) rfl (by decide) (by decide)) e30 Ex31 (g := (mkF m 69 #[.val (.ref r0), .val (.ref r1), .val (.int (Int32.ofNat c1.length))] [(.int (2 : Int32)), (.ref r1), (.int (c1.getD 2 0))])) rfl (by rw [hml]; rfl) (argsL := [(.int (2 : Int32))]) (rest := [(.int (c1.getD 2 0))]) rfl (lenOf pd0 rfl) rfl (by show 2 * 0 + _ ≤ _; exact Nat.le_of_eq rfl) (hb hby d7_69) (by decide) (by decide)
          have N31 := Fr.app N30 (hL31 ▸ Fr.nil n0)
          refine own_go st31 ?_
          show own_Fin p.tables e below _ (T31.setTop (mkF m 72 #[.val (.ref r0), .val (.ref r1), .val (.int (Int32.ofNat c1.length))] [(.int (c2.getD 2 0)), (.int (c1.getD 2 0))]))
          by_cases hc32 : (c1.getD 2 0) = (c2.getD 2 0)
          · refine own_go (fun _ k => XS.icmpYes X31.here hx rfl (pc0 := 72) (pc' := 77) rfl (hb hby d7_72) rfl (XT.ii_eq_t hc32) (by decide) (by decide) k) ?_
            show own_Fin p.tables e below _ (T31.setTop (mkF m 77 #[.val (.ref r0), .val (.ref r1), .val (.int (Int32.ofNat c1.length))] []))
            refine own_go (fun _ k => XT.iconstV X31.here hx rfl (1 : Int32) (hb hby d7_77) (by decide) k) ?_
            show own_Fin p.tables e below _ (T31.setTop (mkF m 78 #[.val (.ref r0), .val (.ref r1), .val (.int (Int32.ofNat c1.length))] [(.int (1 : Int32))]))
            refine own_retN X31 hx hlk (t := .boolean) hret (by simp) (hb hby d7_78) ?_ (by decide) (by decide)
            exact ⟨by rw [show f7 c1 c2 = (1 : Int32) from by simp only [f7, if_pos hc3, if_neg hc5, if_neg hc21, if_pos hc29, if_pos hc32]] <;> rfl, N31, e31⟩
          · refine own_go (fun _ k => XS.icmpNo X31.here hx rfl (hb hby d7_72) rfl (XT.ii_eq_f hc32) k) ?_
            show own_Fin p.tables e below _ (T31.setTop (mkF m 75 #[.val (.ref r0), .val (.ref r1), .val (.int (Int32.ofNat c1.length))] []))
            refine own_go (fun _ k => XT.iconstV X31.here hx rfl (0 : Int32) (hb hby d7_75) (by decide) k) ?_
            show own_Fin p.tables e below _ (T31.setTop (mkF m 76 #[.val (.ref r0), .val (.ref r1), .val (.int (Int32.ofNat c1.length))] [(.int (0 : Int32))]))
            refine own_retN X31 hx hlk (t := .boolean) hret (by simp) (hb hby d7_76) ?_ (by decide) (by decide)
            exact ⟨by rw [show f7 c1 c2 = (0 : Int32) from by simp only [f7, if_pos hc3, if_neg hc5, if_neg hc21, if_pos hc29, if_neg hc32]] <;> rfl, N31, e31⟩
        · refine own_go (fun _ k => XS.icmpYes X4.here hx rfl (pc0 := 59) (pc' := 77) rfl (hb hby d7_59) rfl (XT.ii_le_t hc29) (by decide) (by decide) k) ?_
          show own_Fin p.tables e below _ (T4.setTop (mkF m 77 #[.val (.ref r0), .val (.ref r1), .val (.int (Int32.ofNat c1.length))] []))
          refine own_go (fun _ k => XT.iconstV X4.here hx rfl (1 : Int32) (hb hby d7_77) (by decide) k) ?_
          show own_Fin p.tables e below _ (T4.setTop (mkF m 78 #[.val (.ref r0), .val (.ref r1), .val (.int (Int32.ofNat c1.length))] [(.int (1 : Int32))]))
          refine own_retN X4 hx hlk (t := .boolean) hret (by simp) (hb hby d7_78) ?_ (by decide) (by decide)
          exact ⟨by rw [show f7 c1 c2 = (1 : Int32) from by simp only [f7, if_pos hc3, if_neg hc5, if_neg hc21, if_neg hc29]] <;> rfl, N4, e4⟩
  · refine own_go (fun _ k => XS.icmpNo X2.here hx rfl (hb hby d7_8) rfl (XT.ii_eq_f hc3) k) ?_
    show own_Fin p.tables e below _ (T2.setTop (mkF m 11 #[.val (.ref r0), .val (.ref r1), .unset] []))
    refine own_go (fun _ k => XT.iconstV X2.here hx rfl (0 : Int32) (hb hby d7_11) (by decide) k) ?_
    show own_Fin p.tables e below _ (T2.setTop (mkF m 12 #[.val (.ref r0), .val (.ref r1), .unset] [(.int (0 : Int32))]))
    refine own_retN X2 hx hlk (t := .boolean) hret (by simp) (hb hby d7_12) ?_ (by decide) (by decide)
    exact ⟨by rw [show f7 c1 c2 = (0 : Int32) from by simp only [f7, if_neg hc3]] <;> rfl, N2, e2⟩
theorem d1L_0 : decode method_3_code 0 = .ok (.iload_n 0, 1) := by decide +kernel
theorem d1L_1 : decode method_3_code 1 = .ok (.sipush 255, 3) := by decide +kernel
theorem d1L_4 : decode method_3_code 4 = .ok (.iand, 1) := by decide +kernel
theorem d1L_5 : decode method_3_code 5 = .ok (.istore_n 1, 1) := by decide +kernel
theorem d1L_6 : decode method_3_code 6 = .ok (.iload_n 1, 1) := by decide +kernel
theorem d1L_7 : decode method_3_code 7 = .ok (.sipush 128, 3) := by decide +kernel
theorem d1L_10 : decode method_3_code 10 = .ok (.iand, 1) := by decide +kernel
theorem d1L_11 : decode method_3_code 11 = .ok (.ifCond .ne 17, 3) := by decide +kernel
theorem d1L_14 : decode method_3_code 14 = .ok (.iload_n 1, 1) := by decide +kernel
theorem d1L_15 : decode method_3_code 15 = .ok (.iconst 1, 1) := by decide +kernel
theorem d1L_16 : decode method_3_code 16 = .ok (.iand, 1) := by decide +kernel
theorem d1L_17 : decode method_3_code 17 = .ok (.ifCond .ne 8, 3) := by decide +kernel
theorem d1L_20 : decode method_3_code 20 = .ok (.bipush 42, 2) := by decide +kernel
theorem d1L_22 : decode method_3_code 22 = .ok (.goto 5, 3) := by decide +kernel
theorem d1L_25 : decode method_3_code 25 = .ok (.bipush 97, 2) := by decide +kernel
theorem d1L_27 : decode method_3_code 27 = .ok (.ireturn, 1) := by decide +kernel
theorem d1L_28 : decode method_3_code 28 = .ok (.iload_n 1, 1) := by decide +kernel
theorem d1L_29 : decode method_3_code 29 = .ok (.bipush 127, 2) := by decide +kernel
theorem d1L_31 : decode method_3_code 31 = .ok (.iand, 1) := by decide +kernel
theorem d1L_32 : decode method_3_code 32 = .ok (.i2c, 1) := by decide +kernel
theorem d1L_33 : decode method_3_code 33 = .ok (.ireturn, 1) := by decide +kernel
theorem ef1L (m : MethodId) (i1 : Int32) : entryFrame m #[(.int i1)] 2 = mkF m 0 #[.val (.int i1), .unset] [] := by first | (simp [entryFrame, mkF, argsToLocals, Value.category]; done) | rfl
set_option maxRecDepth 65536 in
set_option maxHeartbeats 40000000 in
theorem rm1L (l : Launch) (Z : State) (a0 : Array Value) (hw : ∀ d ∈ tables_1, d.before a0 Z = true) (ws : List Jvm.Cond) (i1 : Int32) (h0 : Heap) (n0 : Nat) (Z0 : n0 ≤ h0.size)  :
    own_Met l (⟨"com/example/grantline/grantline/eval/OwnerCoversPinLaw", "ch", "(I)C"⟩ : MethodName) method_3_code 2 (some .char) ({ frames := 0, cells := 0, slots := 0, locals := 0 } : Room) ws #[(.int i1)] Z h0 0 0 (fun v h L => v = some (.int (f1 i1)) ∧ L = [] ∧ h = h0) := by
  refine own_met (plainFor_of_name pn0) ?_
  intro p e s m below meth c s₁ hx hby hml hown hnm hret hlk hZ e0 X0
  have hml : c.maxLocals = 2 := hml
  have N0 := Fr.nil n0
  have K0 := Keep.refl h0 []
  refine own_go (fun _ k => castTop (ef1L m i1) k) ?_
  show own_Fin p.tables e below _ (s₁.setTop (mkF m 0 #[.val (.int i1), .unset] []))
  refine own_go (fun _ k => XS.iloadN X0.here hx rfl (hb hby d1L_0) rfl k) ?_
  show own_Fin p.tables e below _ (s₁.setTop (mkF m 1 #[.val (.int i1), .unset] [(.int i1)]))
  refine own_go (fun _ k => XT.sipushV X0.here hx rfl (255 : Int32) (hb hby d1L_1) (by decide) k) ?_
  show own_Fin p.tables e below _ (s₁.setTop (mkF m 4 #[.val (.int i1), .unset] [(.int (255 : Int32)), (.int i1)]))
  refine own_go (fun _ k => XS.iand X0.here hx rfl (hb hby d1L_4) rfl k) ?_
  show own_Fin p.tables e below _ (s₁.setTop (mkF m 5 #[.val (.int i1), .unset] [(.int (i1 &&& (255 : Int32)))]))
  refine own_go (fun _ k => XS.istoreN X0.here hx rfl (hb hby d1L_5) rfl (l' := #[.val (.int i1), .val (.int (i1 &&& (255 : Int32)))]) rfl k) ?_
  show own_Fin p.tables e below _ (s₁.setTop (mkF m 6 #[.val (.int i1), .val (.int (i1 &&& (255 : Int32)))] []))
  refine own_go (fun _ k => XS.iloadN X0.here hx rfl (hb hby d1L_6) rfl k) ?_
  show own_Fin p.tables e below _ (s₁.setTop (mkF m 7 #[.val (.int i1), .val (.int (i1 &&& (255 : Int32)))] [(.int (i1 &&& (255 : Int32)))]))
  refine own_go (fun _ k => XT.sipushV X0.here hx rfl (128 : Int32) (hb hby d1L_7) (by decide) k) ?_
  show own_Fin p.tables e below _ (s₁.setTop (mkF m 10 #[.val (.int i1), .val (.int (i1 &&& (255 : Int32)))] [(.int (128 : Int32)), (.int (i1 &&& (255 : Int32)))]))
  refine own_go (fun _ k => XS.iand X0.here hx rfl (hb hby d1L_10) rfl k) ?_
  show own_Fin p.tables e below _ (s₁.setTop (mkF m 11 #[.val (.int i1), .val (.int (i1 &&& (255 : Int32)))] [(.int ((i1 &&& (255 : Int32)) &&& (128 : Int32)))]))
  by_cases hc1 : ((i1 &&& (255 : Int32)) &&& (128 : Int32)) = (0 : Int32)
  · refine own_go (fun _ k => XS.ifNo X0.here hx rfl (hb hby d1L_11) rfl (XT.i0_ne_f hc1) k) ?_
    show own_Fin p.tables e below _ (s₁.setTop (mkF m 14 #[.val (.int i1), .val (.int (i1 &&& (255 : Int32)))] []))
    refine own_go (fun _ k => XS.iloadN X0.here hx rfl (hb hby d1L_14) rfl k) ?_
    show own_Fin p.tables e below _ (s₁.setTop (mkF m 15 #[.val (.int i1), .val (.int (i1 &&& (255 : Int32)))] [(.int (i1 &&& (255 : Int32)))]))
    refine own_go (fun _ k => XT.iconstV X0.here hx rfl (1 : Int32) (hb hby d1L_15) (by decide) k) ?_
    show own_Fin p.tables e below _ (s₁.setTop (mkF m 16 #[.val (.int i1), .val (.int (i1 &&& (255 : Int32)))] [(.int (1 : Int32)), (.int (i1 &&& (255 : Int32)))]))
    refine own_go (fun _ k => XS.iand X0.here hx rfl (hb hby d1L_16) rfl k) ?_
    show own_Fin p.tables e below _ (s₁.setTop (mkF m 17 #[.val (.int i1), .val (.int (i1 &&& (255 : Int32)))] [(.int ((i1 &&& (255 : Int32)) &&& (1 : Int32)))]))
    by_cases hc2 : ((i1 &&& (255 : Int32)) &&& (1 : Int32)) = (0 : Int32)
    · refine own_go (fun _ k => XS.ifNo X0.here hx rfl (hb hby d1L_17) rfl (XT.i0_ne_f hc2) k) ?_
      show own_Fin p.tables e below _ (s₁.setTop (mkF m 20 #[.val (.int i1), .val (.int (i1 &&& (255 : Int32)))] []))
      refine own_go (fun _ k => XT.bipushV X0.here hx rfl (42 : Int32) (hb hby d1L_20) (by decide) k) ?_
      show own_Fin p.tables e below _ (s₁.setTop (mkF m 22 #[.val (.int i1), .val (.int (i1 &&& (255 : Int32)))] [(.int (42 : Int32))]))
      refine own_go (fun _ k => XS.goto X0.here hx rfl (pc0 := 22) (pc' := 27) rfl (hb hby d1L_22) (by decide) (by decide) k) ?_
      show own_Fin p.tables e below _ (s₁.setTop (mkF m 27 #[.val (.int i1), .val (.int (i1 &&& (255 : Int32)))] [(.int (42 : Int32))]))
      refine own_retN X0 hx hlk (t := .char) hret (by simp) (hb hby d1L_27) ?_ (by decide) (by decide)
      exact ⟨by rw [show f1 i1 = (42 : Int32) from by simp only [f1, if_pos hc1, if_pos hc2]] <;> rfl, rfl, e0⟩
    · refine own_go (fun _ k => XS.ifYes X0.here hx rfl (pc0 := 17) (pc' := 25) rfl (hb hby d1L_17) rfl (XT.i0_ne_t hc2) (by decide) (by decide) k) ?_
      show own_Fin p.tables e below _ (s₁.setTop (mkF m 25 #[.val (.int i1), .val (.int (i1 &&& (255 : Int32)))] []))
      refine own_go (fun _ k => XT.bipushV X0.here hx rfl (97 : Int32) (hb hby d1L_25) (by decide) k) ?_
      show own_Fin p.tables e below _ (s₁.setTop (mkF m 27 #[.val (.int i1), .val (.int (i1 &&& (255 : Int32)))] [(.int (97 : Int32))]))
      refine own_retN X0 hx hlk (t := .char) hret (by simp) (hb hby d1L_27) ?_ (by decide) (by decide)
      exact ⟨by rw [show f1 i1 = (97 : Int32) from by simp only [f1, if_pos hc1, if_neg hc2]] <;> rfl, rfl, e0⟩
  · refine own_go (fun _ k => XS.ifYes X0.here hx rfl (pc0 := 11) (pc' := 28) rfl (hb hby d1L_11) rfl (XT.i0_ne_t hc1) (by decide) (by decide) k) ?_
    show own_Fin p.tables e below _ (s₁.setTop (mkF m 28 #[.val (.int i1), .val (.int (i1 &&& (255 : Int32)))] []))
    refine own_go (fun _ k => XS.iloadN X0.here hx rfl (hb hby d1L_28) rfl k) ?_
    show own_Fin p.tables e below _ (s₁.setTop (mkF m 29 #[.val (.int i1), .val (.int (i1 &&& (255 : Int32)))] [(.int (i1 &&& (255 : Int32)))]))
    refine own_go (fun _ k => XT.bipushV X0.here hx rfl (127 : Int32) (hb hby d1L_29) (by decide) k) ?_
    show own_Fin p.tables e below _ (s₁.setTop (mkF m 31 #[.val (.int i1), .val (.int (i1 &&& (255 : Int32)))] [(.int (127 : Int32)), (.int (i1 &&& (255 : Int32)))]))
    refine own_go (fun _ k => XS.iand X0.here hx rfl (hb hby d1L_31) rfl k) ?_
    show own_Fin p.tables e below _ (s₁.setTop (mkF m 32 #[.val (.int i1), .val (.int (i1 &&& (255 : Int32)))] [(.int ((i1 &&& (255 : Int32)) &&& (127 : Int32)))]))
    refine own_go (fun _ k => XT.i2c X0.here hx rfl (hb hby d1L_32) rfl k) ?_
    show own_Fin p.tables e below _ (s₁.setTop (mkF m 33 #[.val (.int i1), .val (.int (i1 &&& (255 : Int32)))] [(.int (((i1 &&& (255 : Int32)) &&& (127 : Int32)).toUInt32.toUInt16.toUInt32.toInt32))]))
    refine own_retN X0 hx hlk (t := .char) hret (by simp) (hb hby d1L_33) ?_ (by decide) (by decide)
    exact ⟨by rw [show f1 i1 = (nar .char (((i1 &&& (255 : Int32)) &&& (127 : Int32)).toUInt32.toUInt16.toUInt32.toInt32)) from by simp only [f1, if_neg hc1]] <;> rfl, rfl, e0⟩
theorem own_b127 (i : Int32) : ¬ (i &&& (127 : Int32)) < 0 ∧ ¬ (255 : Int32) < (i &&& 127) := by
  rw [XT.negI32, Int32.lt_iff_toInt_lt]
  have hm : (i &&& 127).toInt = i.toInt % (2 ^ 7 : Nat) := c_mask i 127 7 (by decide) (by decide)
  have h5 : (255 : Int32).toInt = 255 := by decide
  rw [h5, hm]; omega
theorem own_f1b (i : Int32) : ¬ f1 i < 0 ∧ ¬ (255 : Int32) < f1 i := by
  unfold f1
  split
  · split <;> decide
  · have h := own_b127 (i &&& 255)
    have e : ((i &&& (255 : Int32)) &&& (127 : Int32)).toUInt32.toUInt16.toUInt32.toInt32 = (i &&& 255) &&& 127 := own_narc _ h
    rw [e, own_narc _ h]; exact h
theorem own_f1n (i : Int32) : ¬ nar .char (f1 i) < 0 ∧ ¬ (255 : Int32) < nar .char (f1 i) := by
  rw [own_narc _ (own_f1b i)]; exact own_f1b i
def own_cs (i1 : Int32) : List Int32 := if (i1 &&& (3 : Int32)) = (0 : Int32) then [] else if (i1 &&& (3 : Int32)) = (1 : Int32) then [f1 (XT.ushr i1 (2 : Int32))] else if (i1 &&& (3 : Int32)) = (2 : Int32) then [nar .char (f1 (XT.ushr i1 (2 : Int32))), nar .char (f1 (XT.ushr i1 (10 : Int32)))] else [nar .char (f1 (XT.ushr i1 (2 : Int32))), nar .char (f1 (XT.ushr i1 (10 : Int32))), nar .char (f1 (XT.ushr i1 (18 : Int32)))]
theorem own_lm0 : ("com/example/grantline/grantline/eval/OwnerCoversPinLaw", 40, "", ([] : List Int32)) ∈ own_lits := List.mem_of_getElem? (i := 0) rfl
theorem own_ld0 : ∀ q ∈ own_lits, q.2.2.1 = "" → q = ("com/example/grantline/grantline/eval/OwnerCoversPinLaw", 40, "", ([] : List Int32)) := by decide +kernel
theorem own_lt0 : (∀ c ∈ "".toList, c.toNat < 256) ∧ "".toList.map (fun c => Value.int (Jvm.Lit.byteI c.toNat.toUInt16)) = ((([] : List Int32).map (fun c => c.toInt8.toInt32)).map Value.int) := by decide +kernel
theorem own_lc0 : own_Chr ([] : List Int32) := ⟨by decide, by decide⟩
theorem own_lm1 : ("com/example/grantline/grantline/eval/CredentialTarget$Owner", 18, "*", ([42] : List Int32)) ∈ own_lits := List.mem_of_getElem? (i := 1) rfl
theorem own_ld1 : ∀ q ∈ own_lits, q.2.2.1 = "*" → q = ("com/example/grantline/grantline/eval/CredentialTarget$Owner", 18, "*", ([42] : List Int32)) := by decide +kernel
theorem own_lt1 : (∀ c ∈ "*".toList, c.toNat < 256) ∧ "*".toList.map (fun c => Value.int (Jvm.Lit.byteI c.toNat.toUInt16)) = ((([42] : List Int32).map (fun c => c.toInt8.toInt32)).map Value.int) := by decide +kernel
theorem own_lc1 : own_Chr ([42] : List Int32) := ⟨by decide, by decide⟩
theorem pd8 : parseMethodDescriptor "([C)V" = some ⟨[(.array .char)], none⟩ := by decide +kernel
theorem d8_0 : decode method_4_code 0 = .ok (.iload_n 0, 1) := by decide +kernel
theorem d8_1 : decode method_4_code 1 = .ok (.iconst 3, 1) := by decide +kernel
theorem d8_2 : decode method_4_code 2 = .ok (.iand, 1) := by decide +kernel
theorem d8_3 : decode method_4_code 3 = .ok (.istore_n 1, 1) := by decide +kernel
theorem d8_4 : decode method_4_code 4 = .ok (.iload_n 0, 1) := by decide +kernel
theorem d8_5 : decode method_4_code 5 = .ok (.iconst 2, 1) := by decide +kernel
theorem d8_6 : decode method_4_code 6 = .ok (.iushr, 1) := by decide +kernel
theorem d8_7 : decode method_4_code 7 = .ok (.invokestatic 36, 3) := by decide +kernel
theorem d8_10 : decode method_4_code 10 = .ok (.istore_n 2, 1) := by decide +kernel
theorem d8_11 : decode method_4_code 11 = .ok (.iload_n 0, 1) := by decide +kernel
theorem d8_12 : decode method_4_code 12 = .ok (.bipush 10, 2) := by decide +kernel
theorem d8_14 : decode method_4_code 14 = .ok (.iushr, 1) := by decide +kernel
theorem d8_15 : decode method_4_code 15 = .ok (.invokestatic 36, 3) := by decide +kernel
theorem d8_18 : decode method_4_code 18 = .ok (.istore_n 3, 1) := by decide +kernel
theorem d8_19 : decode method_4_code 19 = .ok (.iload_n 0, 1) := by decide +kernel
theorem d8_20 : decode method_4_code 20 = .ok (.bipush 18, 2) := by decide +kernel
theorem d8_22 : decode method_4_code 22 = .ok (.iushr, 1) := by decide +kernel
theorem d8_23 : decode method_4_code 23 = .ok (.invokestatic 36, 3) := by decide +kernel
theorem d8_26 : decode method_4_code 26 = .ok (.istore 4, 2) := by decide +kernel
theorem d8_28 : decode method_4_code 28 = .ok (.iload_n 1, 1) := by decide +kernel
theorem d8_29 : decode method_4_code 29 = .ok (.ifCond .ne 6, 3) := by decide +kernel
theorem d8_32 : decode method_4_code 32 = .ok (.ldc 40, 2) := by decide +kernel
theorem d8_34 : decode method_4_code 34 = .ok (.areturn, 1) := by decide +kernel
theorem d8_35 : decode method_4_code 35 = .ok (.iload_n 1, 1) := by decide +kernel
theorem d8_36 : decode method_4_code 36 = .ok (.iconst 1, 1) := by decide +kernel
theorem d8_37 : decode method_4_code 37 = .ok (.if_icmp .ne 8, 3) := by decide +kernel
theorem d8_40 : decode method_4_code 40 = .ok (.iload_n 2, 1) := by decide +kernel
theorem d8_41 : decode method_4_code 41 = .ok (.invokestatic 7, 3) := by decide +kernel
theorem d8_44 : decode method_4_code 44 = .ok (.areturn, 1) := by decide +kernel
theorem d8_45 : decode method_4_code 45 = .ok (.iload_n 1, 1) := by decide +kernel
theorem d8_46 : decode method_4_code 46 = .ok (.iconst 2, 1) := by decide +kernel
theorem d8_47 : decode method_4_code 47 = .ok (.if_icmp .ne 22, 3) := by decide +kernel
theorem d8_50 : decode method_4_code 50 = .ok (.new 8, 3) := by decide +kernel
theorem d8_53 : decode method_4_code 53 = .ok (.dup, 1) := by decide +kernel
theorem d8_54 : decode method_4_code 54 = .ok (.iconst 2, 1) := by decide +kernel
theorem d8_55 : decode method_4_code 55 = .ok (.newarray .char, 2) := by decide +kernel
theorem d8_57 : decode method_4_code 57 = .ok (.dup, 1) := by decide +kernel
theorem d8_58 : decode method_4_code 58 = .ok (.iconst 0, 1) := by decide +kernel
theorem d8_59 : decode method_4_code 59 = .ok (.iload_n 2, 1) := by decide +kernel
theorem d8_60 : decode method_4_code 60 = .ok (.castore, 1) := by decide +kernel
theorem d8_61 : decode method_4_code 61 = .ok (.dup, 1) := by decide +kernel
theorem d8_62 : decode method_4_code 62 = .ok (.iconst 1, 1) := by decide +kernel
theorem d8_63 : decode method_4_code 63 = .ok (.iload_n 3, 1) := by decide +kernel
theorem d8_64 : decode method_4_code 64 = .ok (.castore, 1) := by decide +kernel
theorem d8_65 : decode method_4_code 65 = .ok (.invokespecial 42, 3) := by decide +kernel
theorem d8_68 : decode method_4_code 68 = .ok (.areturn, 1) := by decide +kernel
theorem d8_69 : decode method_4_code 69 = .ok (.new 8, 3) := by decide +kernel
theorem d8_72 : decode method_4_code 72 = .ok (.dup, 1) := by decide +kernel
theorem d8_73 : decode method_4_code 73 = .ok (.iconst 3, 1) := by decide +kernel
theorem d8_74 : decode method_4_code 74 = .ok (.newarray .char, 2) := by decide +kernel
theorem d8_76 : decode method_4_code 76 = .ok (.dup, 1) := by decide +kernel
theorem d8_77 : decode method_4_code 77 = .ok (.iconst 0, 1) := by decide +kernel
theorem d8_78 : decode method_4_code 78 = .ok (.iload_n 2, 1) := by decide +kernel
theorem d8_79 : decode method_4_code 79 = .ok (.castore, 1) := by decide +kernel
theorem d8_80 : decode method_4_code 80 = .ok (.dup, 1) := by decide +kernel
theorem d8_81 : decode method_4_code 81 = .ok (.iconst 1, 1) := by decide +kernel
theorem d8_82 : decode method_4_code 82 = .ok (.iload_n 3, 1) := by decide +kernel
theorem d8_83 : decode method_4_code 83 = .ok (.castore, 1) := by decide +kernel
theorem d8_84 : decode method_4_code 84 = .ok (.dup, 1) := by decide +kernel
theorem d8_85 : decode method_4_code 85 = .ok (.iconst 2, 1) := by decide +kernel
theorem d8_86 : decode method_4_code 86 = .ok (.iload 4, 2) := by decide +kernel
theorem d8_88 : decode method_4_code 88 = .ok (.castore, 1) := by decide +kernel
theorem d8_89 : decode method_4_code 89 = .ok (.invokespecial 42, 3) := by decide +kernel
theorem d8_92 : decode method_4_code 92 = .ok (.areturn, 1) := by decide +kernel
theorem pd9 : parseMethodDescriptor "(I)Ljava/lang/String;" = some ⟨[.int], some (.object "java/lang/String")⟩ := by decide +kernel
theorem ef8 (m : MethodId) (i1 : Int32) : entryFrame m #[(.int i1)] 5 = mkF m 0 #[.val (.int i1), .unset, .unset, .unset, .unset] [] := by first | (simp [entryFrame, mkF, argsToLocals, Value.category]; done) | rfl
set_option maxRecDepth 65536 in
set_option maxHeartbeats 40000000 in
theorem rm8 (l : Launch) (Z : State) (a0 : Array Value) (hw : ∀ d ∈ tables_1, d.before a0 Z = true) (ws : List Jvm.Cond) (i1 : Int32)  (h0 : Heap) (n0 : Nat) (Z0 : n0 ≤ h0.size) (ic : Int32) (SC : Sta Z Z.heap "java/lang/String" "COMPACT_STRINGS" "Z" (.int ic)) (hz : ¬ ic = 0) (O0 : Old Z n0 h0) (hl0 : Jvm.Lit.constHeld Z "com/example/grantline/grantline/eval/OwnerCoversPinLaw" 40) (hl1 : Jvm.Lit.constHeld Z "com/example/grantline/grantline/eval/CredentialTarget$Owner" 18) (hcw : Jvm.Lit.compactW.before a0 Z = true) :
    own_MetW l (⟨"com/example/grantline/grantline/eval/OwnerCoversPinLaw", "str", "(I)Ljava/lang/String;"⟩ : MethodName) method_4_code 5 (some (.object "java/lang/String")) ({ frames := 4, cells := 3, slots := 10, locals := 66 } : Room) ws #[(.int i1)] Z h0 (fun vm => own_LO Z vm h0 h0.size) 3 10 (fun v h vm L => ∃ a, v = some (.ref a) ∧ Fr n0 L ∧ Keep h0 h [] ∧ own_Str Z h a (own_cs i1) h.size ∧ own_LO Z vm h h.size) := by
  refine own_metW (plainFor_of_name pn0) ?_
  intro p e s m below meth c s₁ hx hby hml hown hnm hret hlk hZ hh0 e0 LO0 hS0 X0
  have hml : c.maxLocals = 5 := hml
  have N0 := Fr.nil n0
  have K0 := Keep.refl h0 []
  have hws : ∀ d ∈ StrChars.Road.words, d.before a0 Z = true := fun d hd => hw d ((by decide +kernel : ∀ d ∈ StrChars.Road.words, d ∈ tables_1) d hd)
  have hsa : ∀ d ∈ Bundle.stringAtoms, d.before a0 Z = true := fun d hd => hw d ((by decide +kernel : ∀ d ∈ Bundle.stringAtoms, d ∈ tables_1) d hd)
  have hkeep : ∀ (b : Addr) (cl : Cell), Z.heap[b]? = some cl → s.heap[b]? = some cl := fun b cl q => by rw [hh0]; exact O0.2.2 b cl q
  refine own_go (fun _ k => castTop (ef8 m i1) k) ?_
  show own_Fin p.tables e below _ (s₁.setTop (mkF m 0 #[.val (.int i1), .unset, .unset, .unset, .unset] []))
  refine own_go (fun _ k => XS.iloadN X0.here hx rfl (hb hby d8_0) rfl k) ?_
  show own_Fin p.tables e below _ (s₁.setTop (mkF m 1 #[.val (.int i1), .unset, .unset, .unset, .unset] [(.int i1)]))
  refine own_go (fun _ k => XT.iconstV X0.here hx rfl (3 : Int32) (hb hby d8_1) (by decide) k) ?_
  show own_Fin p.tables e below _ (s₁.setTop (mkF m 2 #[.val (.int i1), .unset, .unset, .unset, .unset] [(.int (3 : Int32)), (.int i1)]))
  refine own_go (fun _ k => XS.iand X0.here hx rfl (hb hby d8_2) rfl k) ?_
  show own_Fin p.tables e below _ (s₁.setTop (mkF m 3 #[.val (.int i1), .unset, .unset, .unset, .unset] [(.int (i1 &&& (3 : Int32)))]))
  refine own_go (fun _ k => XS.istoreN X0.here hx rfl (hb hby d8_3) rfl (l' := #[.val (.int i1), .val (.int (i1 &&& (3 : Int32))), .unset, .unset, .unset]) rfl k) ?_
  show own_Fin p.tables e below _ (s₁.setTop (mkF m 4 #[.val (.int i1), .val (.int (i1 &&& (3 : Int32))), .unset, .unset, .unset] []))
  refine own_go (fun _ k => XS.iloadN X0.here hx rfl (hb hby d8_4) rfl k) ?_
  show own_Fin p.tables e below _ (s₁.setTop (mkF m 5 #[.val (.int i1), .val (.int (i1 &&& (3 : Int32))), .unset, .unset, .unset] [(.int i1)]))
  refine own_go (fun _ k => XT.iconstV X0.here hx rfl (2 : Int32) (hb hby d8_5) (by decide) k) ?_
  show own_Fin p.tables e below _ (s₁.setTop (mkF m 6 #[.val (.int i1), .val (.int (i1 &&& (3 : Int32))), .unset, .unset, .unset] [(.int (2 : Int32)), (.int i1)]))
  refine own_go (fun _ k => XT.iushr X0.here hx rfl (hb hby d8_6) rfl k) ?_
  show own_Fin p.tables e below _ (s₁.setTop (mkF m 7 #[.val (.int i1), .val (.int (i1 &&& (3 : Int32))), .unset, .unset, .unset] [(.int (XT.ushr i1 (2 : Int32)))]))
  obtain ⟨_, T1, L1, X1, ⟨rfl, hL1, e1⟩, st1⟩ := own_callS X0 hx hZ hown (hw _ (List.mem_of_getElem? (i := 4) rfl)) (hw _ (List.mem_of_getElem? (i := 5) rfl)) (hw _ (List.mem_of_getElem? (i := 2) rfl)) (hw _ (List.mem_of_getElem? (i := 6) rfl)) (by decide) (W := 0) (rm1L l Z a0 hw [] (XT.ushr i1 (2 : Int32)) h0 n0 (Nat.le_trans Z0 K0.1)) (by decide) (by decide) e0 (g := (mkF m 7 #[.val (.int i1), .val (.int (i1 &&& (3 : Int32))), .unset, .unset, .unset] [(.int (XT.ushr i1 (2 : Int32)))])) rfl (by rw [hml]; rfl) (argsL := [(.int (XT.ushr i1 (2 : Int32)))]) (rest := []) rfl (lenOf pd0 rfl) rfl (by show 2 * 0 + _ ≤ _; exact Nat.le_of_eq rfl) (hb hby d8_7) (by decide) (by decide)
  have M1 : Fr n0 L1 := hL1 ▸ Fr.nil n0
  have N1 := Fr.app N0 M1
  have NN1 := Fr.app (Fr.nil s.heap.size) (hL1 ▸ Fr.nil s.heap.size)
  refine own_go st1 ?_
  show own_Fin p.tables e below _ (T1.setTop (mkF m 10 #[.val (.int i1), .val (.int (i1 &&& (3 : Int32))), .unset, .unset, .unset] [(.int (f1 (XT.ushr i1 (2 : Int32))))]))
  refine own_go (fun _ k => XS.istoreN X1.here hx rfl (hb hby d8_10) rfl (l' := #[.val (.int i1), .val (.int (i1 &&& (3 : Int32))), .val (.int (f1 (XT.ushr i1 (2 : Int32)))), .unset, .unset]) rfl k) ?_
  show own_Fin p.tables e below _ (T1.setTop (mkF m 11 #[.val (.int i1), .val (.int (i1 &&& (3 : Int32))), .val (.int (f1 (XT.ushr i1 (2 : Int32)))), .unset, .unset] []))
  refine own_go (fun _ k => XS.iloadN X1.here hx rfl (hb hby d8_11) rfl k) ?_
  show own_Fin p.tables e below _ (T1.setTop (mkF m 12 #[.val (.int i1), .val (.int (i1 &&& (3 : Int32))), .val (.int (f1 (XT.ushr i1 (2 : Int32)))), .unset, .unset] [(.int i1)]))
  refine own_go (fun _ k => XT.bipushV X1.here hx rfl (10 : Int32) (hb hby d8_12) (by decide) k) ?_
  show own_Fin p.tables e below _ (T1.setTop (mkF m 14 #[.val (.int i1), .val (.int (i1 &&& (3 : Int32))), .val (.int (f1 (XT.ushr i1 (2 : Int32)))), .unset, .unset] [(.int (10 : Int32)), (.int i1)]))
  refine own_go (fun _ k => XT.iushr X1.here hx rfl (hb hby d8_14) rfl k) ?_
  show own_Fin p.tables e below _ (T1.setTop (mkF m 15 #[.val (.int i1), .val (.int (i1 &&& (3 : Int32))), .val (.int (f1 (XT.ushr i1 (2 : Int32)))), .unset, .unset] [(.int (XT.ushr i1 (10 : Int32)))]))
  obtain ⟨_, T2, L2, X2, ⟨rfl, hL2, e2⟩, st2⟩ := own_callS X1 hx hZ hown (hw _ (List.mem_of_getElem? (i := 4) rfl)) (hw _ (List.mem_of_getElem? (i := 5) rfl)) (hw _ (List.mem_of_getElem? (i := 2) rfl)) (hw _ (List.mem_of_getElem? (i := 6) rfl)) (by decide) (W := 0) (rm1L l Z a0 hw [] (XT.ushr i1 (10 : Int32)) h0 n0 (Nat.le_trans Z0 K0.1)) (by decide) (by decide) e1 (g := (mkF m 15 #[.val (.int i1), .val (.int (i1 &&& (3 : Int32))), .val (.int (f1 (XT.ushr i1 (2 : Int32)))), .unset, .unset] [(.int (XT.ushr i1 (10 : Int32)))])) rfl (by rw [hml]; rfl) (argsL := [(.int (XT.ushr i1 (10 : Int32)))]) (rest := []) rfl (lenOf pd0 rfl) rfl (by show 2 * 0 + _ ≤ _; exact Nat.le_of_eq rfl) (hb hby d8_15) (by decide) (by decide)
  have M2 : Fr n0 L2 := hL2 ▸ Fr.nil n0
  have N2 := Fr.app N1 M2
  have NN2 := Fr.app NN1 (hL2 ▸ Fr.nil s.heap.size)
  refine own_go st2 ?_
  show own_Fin p.tables e below _ (T2.setTop (mkF m 18 #[.val (.int i1), .val (.int (i1 &&& (3 : Int32))), .val (.int (f1 (XT.ushr i1 (2 : Int32)))), .unset, .unset] [(.int (f1 (XT.ushr i1 (10 : Int32))))]))
  refine own_go (fun _ k => XS.istoreN X2.here hx rfl (hb hby d8_18) rfl (l' := #[.val (.int i1), .val (.int (i1 &&& (3 : Int32))), .val (.int (f1 (XT.ushr i1 (2 : Int32)))), .val (.int (f1 (XT.ushr i1 (10 : Int32)))), .unset]) rfl k) ?_
  show own_Fin p.tables e below _ (T2.setTop (mkF m 19 #[.val (.int i1), .val (.int (i1 &&& (3 : Int32))), .val (.int (f1 (XT.ushr i1 (2 : Int32)))), .val (.int (f1 (XT.ushr i1 (10 : Int32)))), .unset] []))
  refine own_go (fun _ k => XS.iloadN X2.here hx rfl (hb hby d8_19) rfl k) ?_
  show own_Fin p.tables e below _ (T2.setTop (mkF m 20 #[.val (.int i1), .val (.int (i1 &&& (3 : Int32))), .val (.int (f1 (XT.ushr i1 (2 : Int32)))), .val (.int (f1 (XT.ushr i1 (10 : Int32)))), .unset] [(.int i1)]))
  refine own_go (fun _ k => XT.bipushV X2.here hx rfl (18 : Int32) (hb hby d8_20) (by decide) k) ?_
  show own_Fin p.tables e below _ (T2.setTop (mkF m 22 #[.val (.int i1), .val (.int (i1 &&& (3 : Int32))), .val (.int (f1 (XT.ushr i1 (2 : Int32)))), .val (.int (f1 (XT.ushr i1 (10 : Int32)))), .unset] [(.int (18 : Int32)), (.int i1)]))
  refine own_go (fun _ k => XT.iushr X2.here hx rfl (hb hby d8_22) rfl k) ?_
  show own_Fin p.tables e below _ (T2.setTop (mkF m 23 #[.val (.int i1), .val (.int (i1 &&& (3 : Int32))), .val (.int (f1 (XT.ushr i1 (2 : Int32)))), .val (.int (f1 (XT.ushr i1 (10 : Int32)))), .unset] [(.int (XT.ushr i1 (18 : Int32)))]))
  obtain ⟨_, T3, L3, X3, ⟨rfl, hL3, e3⟩, st3⟩ := own_callS X2 hx hZ hown (hw _ (List.mem_of_getElem? (i := 4) rfl)) (hw _ (List.mem_of_getElem? (i := 5) rfl)) (hw _ (List.mem_of_getElem? (i := 2) rfl)) (hw _ (List.mem_of_getElem? (i := 6) rfl)) (by decide) (W := 0) (rm1L l Z a0 hw [] (XT.ushr i1 (18 : Int32)) h0 n0 (Nat.le_trans Z0 K0.1)) (by decide) (by decide) e2 (g := (mkF m 23 #[.val (.int i1), .val (.int (i1 &&& (3 : Int32))), .val (.int (f1 (XT.ushr i1 (2 : Int32)))), .val (.int (f1 (XT.ushr i1 (10 : Int32)))), .unset] [(.int (XT.ushr i1 (18 : Int32)))])) rfl (by rw [hml]; rfl) (argsL := [(.int (XT.ushr i1 (18 : Int32)))]) (rest := []) rfl (lenOf pd0 rfl) rfl (by show 2 * 0 + _ ≤ _; exact Nat.le_of_eq rfl) (hb hby d8_23) (by decide) (by decide)
  have M3 : Fr n0 L3 := hL3 ▸ Fr.nil n0
  have N3 := Fr.app N2 M3
  have NN3 := Fr.app NN2 (hL3 ▸ Fr.nil s.heap.size)
  refine own_go st3 ?_
  show own_Fin p.tables e below _ (T3.setTop (mkF m 26 #[.val (.int i1), .val (.int (i1 &&& (3 : Int32))), .val (.int (f1 (XT.ushr i1 (2 : Int32)))), .val (.int (f1 (XT.ushr i1 (10 : Int32)))), .unset] [(.int (f1 (XT.ushr i1 (18 : Int32))))]))
  refine own_go (fun _ k => XS.istore X3.here hx rfl (hb hby d8_26) rfl (l' := #[.val (.int i1), .val (.int (i1 &&& (3 : Int32))), .val (.int (f1 (XT.ushr i1 (2 : Int32)))), .val (.int (f1 (XT.ushr i1 (10 : Int32)))), .val (.int (f1 (XT.ushr i1 (18 : Int32))))]) rfl k) ?_
  show own_Fin p.tables e below _ (T3.setTop (mkF m 28 #[.val (.int i1), .val (.int (i1 &&& (3 : Int32))), .val (.int (f1 (XT.ushr i1 (2 : Int32)))), .val (.int (f1 (XT.ushr i1 (10 : Int32)))), .val (.int (f1 (XT.ushr i1 (18 : Int32))))] []))
  refine own_go (fun _ k => XS.iloadN X3.here hx rfl (hb hby d8_28) rfl k) ?_
  show own_Fin p.tables e below _ (T3.setTop (mkF m 29 #[.val (.int i1), .val (.int (i1 &&& (3 : Int32))), .val (.int (f1 (XT.ushr i1 (2 : Int32)))), .val (.int (f1 (XT.ushr i1 (10 : Int32)))), .val (.int (f1 (XT.ushr i1 (18 : Int32))))] [(.int (i1 &&& (3 : Int32)))]))
  by_cases hc4 : (i1 &&& (3 : Int32)) = (0 : Int32)
  · refine own_go (fun _ k => XS.ifNo X3.here hx rfl (hb hby d8_29) rfl (XT.i0_ne_f hc4) k) ?_
    show own_Fin p.tables e below _ (T3.setTop (mkF m 32 #[.val (.int i1), .val (.int (i1 &&& (3 : Int32))), .val (.int (f1 (XT.ushr i1 (2 : Int32)))), .val (.int (f1 (XT.ushr i1 (10 : Int32)))), .val (.int (f1 (XT.ushr i1 (18 : Int32))))] []))
    obtain ⟨al5, T5, _, X5, rfl, E5, hS5, hZ5, ho5, S5, LO5, Lt5, st5⟩ := own_load X3 hx hZ hS0 (Nat.zero_le _) hown (hw _ (List.mem_of_getElem? (i := 7) rfl)) hsa e3 NN3 hkeep (LO0.mono K0.1) own_lm0 own_ld0 hl0 hcw own_lt0 own_lc0 (g := (mkF m 32 #[.val (.int i1), .val (.int (i1 &&& (3 : Int32))), .val (.int (f1 (XT.ushr i1 (2 : Int32)))), .val (.int (f1 (XT.ushr i1 (10 : Int32)))), .val (.int (f1 (XT.ushr i1 (18 : Int32))))] [])) rfl (hb hby d8_32) (n := 0) (by decide) (by decide) (by decide) (by decide)
    have O_5 := O0.ext E5
    have K5 := K0.ext E5
    refine own_go st5 ?_
    show own_Fin p.tables e below _ (T5.setTop (mkF m 34 #[.val (.int i1), .val (.int (i1 &&& (3 : Int32))), .val (.int (f1 (XT.ushr i1 (2 : Int32)))), .val (.int (f1 (XT.ushr i1 (10 : Int32)))), .val (.int (f1 (XT.ushr i1 (18 : Int32))))] [(.ref al5)]))
    refine own_retAW X5 hx hlk hS5 (Nat.le_refl _) hret rfl rfl (hb hby d8_34) ?_ (by decide) (by decide)
    have hcs : own_cs i1 = ([] : List Int32) := by simp only [own_cs, if_pos hc4] <;> rfl
    exact ⟨al5, rfl, N3, K5, hcs ▸ S5, (own_LO.warm (LO5.mono (Nat.le_refl _)) X5.warmed)⟩
  · refine own_go (fun _ k => XS.ifYes X3.here hx rfl (pc0 := 29) (pc' := 35) rfl (hb hby d8_29) rfl (XT.i0_ne_t hc4) (by decide) (by decide) k) ?_
    show own_Fin p.tables e below _ (T3.setTop (mkF m 35 #[.val (.int i1), .val (.int (i1 &&& (3 : Int32))), .val (.int (f1 (XT.ushr i1 (2 : Int32)))), .val (.int (f1 (XT.ushr i1 (10 : Int32)))), .val (.int (f1 (XT.ushr i1 (18 : Int32))))] []))
    refine own_go (fun _ k => XS.iloadN X3.here hx rfl (hb hby d8_35) rfl k) ?_
    show own_Fin p.tables e below _ (T3.setTop (mkF m 36 #[.val (.int i1), .val (.int (i1 &&& (3 : Int32))), .val (.int (f1 (XT.ushr i1 (2 : Int32)))), .val (.int (f1 (XT.ushr i1 (10 : Int32)))), .val (.int (f1 (XT.ushr i1 (18 : Int32))))] [(.int (i1 &&& (3 : Int32)))]))
    refine own_go (fun _ k => XT.iconstV X3.here hx rfl (1 : Int32) (hb hby d8_36) (by decide) k) ?_
    show own_Fin p.tables e below _ (T3.setTop (mkF m 37 #[.val (.int i1), .val (.int (i1 &&& (3 : Int32))), .val (.int (f1 (XT.ushr i1 (2 : Int32)))), .val (.int (f1 (XT.ushr i1 (10 : Int32)))), .val (.int (f1 (XT.ushr i1 (18 : Int32))))] [(.int (1 : Int32)), (.int (i1 &&& (3 : Int32)))]))
    by_cases hc6 : (i1 &&& (3 : Int32)) = (1 : Int32)
    · refine own_go (fun _ k => XS.icmpNo X3.here hx rfl (hb hby d8_37) rfl (XT.ii_ne_f hc6) k) ?_
      show own_Fin p.tables e below _ (T3.setTop (mkF m 40 #[.val (.int i1), .val (.int (i1 &&& (3 : Int32))), .val (.int (f1 (XT.ushr i1 (2 : Int32)))), .val (.int (f1 (XT.ushr i1 (10 : Int32)))), .val (.int (f1 (XT.ushr i1 (18 : Int32))))] []))
      refine own_go (fun _ k => XS.iloadN X3.here hx rfl (hb hby d8_40) rfl k) ?_
      show own_Fin p.tables e below _ (T3.setTop (mkF m 41 #[.val (.int i1), .val (.int (i1 &&& (3 : Int32))), .val (.int (f1 (XT.ushr i1 (2 : Int32)))), .val (.int (f1 (XT.ushr i1 (10 : Int32)))), .val (.int (f1 (XT.ushr i1 (18 : Int32))))] [(.int (f1 (XT.ushr i1 (2 : Int32))))]))
      obtain ⟨_, T7, L7, X7, ⟨a7, rfl, M7, KK7, -, S7⟩, st7⟩ := own_callS X3 hx hZ hown (hw _ (List.mem_of_getElem? (i := 40) rfl)) (hw _ (List.mem_of_getElem? (i := 41) rfl)) (hw _ (List.mem_of_getElem? (i := 8) rfl)) (hw _ (List.mem_of_getElem? (i := 42) rfl)) (by decide) (W := 0) (rm5 l Z a0 hw [] (f1 (XT.ushr i1 (2 : Int32))) h0 n0 (Nat.le_trans Z0 K0.1) ic SC hz O0 (own_f1b _)) (by decide) (by decide) e3 (g := (mkF m 41 #[.val (.int i1), .val (.int (i1 &&& (3 : Int32))), .val (.int (f1 (XT.ushr i1 (2 : Int32)))), .val (.int (f1 (XT.ushr i1 (10 : Int32)))), .val (.int (f1 (XT.ushr i1 (18 : Int32))))] [(.int (f1 (XT.ushr i1 (2 : Int32))))])) rfl (by rw [hml]; rfl) (argsL := [(.int (f1 (XT.ushr i1 (2 : Int32))))]) (rest := []) rfl (lenOf pd4 rfl) rfl (by show 2 * 0 + _ ≤ _; exact Nat.le_of_eq rfl) (hb hby d8_41) (by decide) (by decide)
      have N7 := Fr.app N3 M7
      have LO_7 := LO0.keep0 KK7
      have O_7 := O0.keep KK7 all0
      have K7 := K0.trans KK7 all0
      refine own_go st7 ?_
      show own_Fin p.tables e below _ (T7.setTop (mkF m 44 #[.val (.int i1), .val (.int (i1 &&& (3 : Int32))), .val (.int (f1 (XT.ushr i1 (2 : Int32)))), .val (.int (f1 (XT.ushr i1 (10 : Int32)))), .val (.int (f1 (XT.ushr i1 (18 : Int32))))] [(.ref a7)]))
      refine own_retAW X7 hx hlk hS0 (Nat.zero_le _) hret rfl rfl (hb hby d8_44) ?_ (by decide) (by decide)
      have hcs : own_cs i1 = ([(f1 (XT.ushr i1 (2 : Int32)))] : List Int32) := by simp only [own_cs, if_neg hc4, if_pos hc6] <;> rfl
      exact ⟨a7, rfl, N7, K7, hcs ▸ S7, (own_LO.warm (LO_7.mono K7.1) X7.warmed)⟩
    · refine own_go (fun _ k => XS.icmpYes X3.here hx rfl (pc0 := 37) (pc' := 45) rfl (hb hby d8_37) rfl (XT.ii_ne_t hc6) (by decide) (by decide) k) ?_
      show own_Fin p.tables e below _ (T3.setTop (mkF m 45 #[.val (.int i1), .val (.int (i1 &&& (3 : Int32))), .val (.int (f1 (XT.ushr i1 (2 : Int32)))), .val (.int (f1 (XT.ushr i1 (10 : Int32)))), .val (.int (f1 (XT.ushr i1 (18 : Int32))))] []))
      refine own_go (fun _ k => XS.iloadN X3.here hx rfl (hb hby d8_45) rfl k) ?_
      show own_Fin p.tables e below _ (T3.setTop (mkF m 46 #[.val (.int i1), .val (.int (i1 &&& (3 : Int32))), .val (.int (f1 (XT.ushr i1 (2 : Int32)))), .val (.int (f1 (XT.ushr i1 (10 : Int32)))), .val (.int (f1 (XT.ushr i1 (18 : Int32))))] [(.int (i1 &&& (3 : Int32)))]))
      refine own_go (fun _ k => XT.iconstV X3.here hx rfl (2 : Int32) (hb hby d8_46) (by decide) k) ?_
      show own_Fin p.tables e below _ (T3.setTop (mkF m 47 #[.val (.int i1), .val (.int (i1 &&& (3 : Int32))), .val (.int (f1 (XT.ushr i1 (2 : Int32)))), .val (.int (f1 (XT.ushr i1 (10 : Int32)))), .val (.int (f1 (XT.ushr i1 (18 : Int32))))] [(.int (2 : Int32)), (.int (i1 &&& (3 : Int32)))]))
      by_cases hc8 : (i1 &&& (3 : Int32)) = (2 : Int32)
      · refine own_go (fun _ k => XS.icmpNo X3.here hx rfl (hb hby d8_47) rfl (XT.ii_ne_f hc8) k) ?_
        show own_Fin p.tables e below _ (T3.setTop (mkF m 50 #[.val (.int i1), .val (.int (i1 &&& (3 : Int32))), .val (.int (f1 (XT.ushr i1 (2 : Int32)))), .val (.int (f1 (XT.ushr i1 (10 : Int32)))), .val (.int (f1 (XT.ushr i1 (18 : Int32))))] []))
        obtain ⟨T9, h9, X9, e9, E9, A9, D9, -, st9⟩ := newO X3 hx hZ hown (hw _ (List.mem_of_getElem? (i := 15) rfl)) (hw _ (List.mem_of_getElem? (i := 9) rfl)) (hw _ (List.mem_of_getElem? (i := 8) rfl)) e3 (g := (mkF m 50 #[.val (.int i1), .val (.int (i1 &&& (3 : Int32))), .val (.int (f1 (XT.ushr i1 (2 : Int32)))), .val (.int (f1 (XT.ushr i1 (10 : Int32)))), .val (.int (f1 (XT.ushr i1 (18 : Int32))))] [])) rfl (hb hby d8_50) (by decide) (by decide)
        obtain ⟨a9, g9⟩ : ∃ z, z = h0.size := ⟨_, rfl⟩
        rw [← g9] at A9 D9 st9
        have q9 : h0.size ≤ a9 := Nat.le_trans K0.1 (Nat.le_of_eq g9.symm)
        have z9 : n0 ≤ a9 := Nat.le_trans Z0 q9
        have LO_9 := LO0.ext E9
        have O_9 := O0.ext E9
        have K9 := K0.ext E9
        have Fa9_value : Fld Z h9 a9 "java/lang/String" "value" "[B" .null := D9 (Or.inr (hw _ (List.mem_of_getElem? (i := 11) rfl))) (ty := (.array .byte)) (by decide)
        have Fa9_coder : Fld Z h9 a9 "java/lang/String" "coder" "B" (.int (0 : Int32)) := D9 (Or.inr (hw _ (List.mem_of_getElem? (i := 12) rfl))) (ty := .byte) (by decide)
        refine own_go st9 ?_
        show own_Fin p.tables e below _ (T9.setTop (mkF m 53 #[.val (.int i1), .val (.int (i1 &&& (3 : Int32))), .val (.int (f1 (XT.ushr i1 (2 : Int32)))), .val (.int (f1 (XT.ushr i1 (10 : Int32)))), .val (.int (f1 (XT.ushr i1 (18 : Int32))))] [(.ref a9)]))
        refine own_go (fun _ k => XS.dup X9.here hx rfl (hb hby d8_53) rfl rfl k) ?_
        show own_Fin p.tables e below _ (T9.setTop (mkF m 54 #[.val (.int i1), .val (.int (i1 &&& (3 : Int32))), .val (.int (f1 (XT.ushr i1 (2 : Int32)))), .val (.int (f1 (XT.ushr i1 (10 : Int32)))), .val (.int (f1 (XT.ushr i1 (18 : Int32))))] [(.ref a9), (.ref a9)]))
        refine own_go (fun _ k => XT.iconstV X9.here hx rfl (2 : Int32) (hb hby d8_54) (by decide) k) ?_
        show own_Fin p.tables e below _ (T9.setTop (mkF m 55 #[.val (.int i1), .val (.int (i1 &&& (3 : Int32))), .val (.int (f1 (XT.ushr i1 (2 : Int32)))), .val (.int (f1 (XT.ushr i1 (10 : Int32)))), .val (.int (f1 (XT.ushr i1 (18 : Int32))))] [(.int (2 : Int32)), (.ref a9), (.ref a9)]))
        obtain ⟨T10, h10, k10, X10, e10, E10, A10, st10⟩ := newP X9 hx hZ (hw _ (List.mem_of_getElem? (i := 16) rfl)) e9 (g := (mkF m 55 #[.val (.int i1), .val (.int (i1 &&& (3 : Int32))), .val (.int (f1 (XT.ushr i1 (2 : Int32)))), .val (.int (f1 (XT.ushr i1 (10 : Int32)))), .val (.int (f1 (XT.ushr i1 (18 : Int32))))] [(.int (2 : Int32)), (.ref a9), (.ref a9)])) rfl (hb hby d8_55) rfl (by decide) (cap := 2) (by decide) (by decide) (by decide) (by decide)
        obtain ⟨a10, g10⟩ : ∃ z, z = h9.size := ⟨_, rfl⟩
        rw [← g10] at A10 st10
        have q10 : h0.size ≤ a10 := Nat.le_trans K9.1 (Nat.le_of_eq g10.symm)
        have z10 : n0 ≤ a10 := Nat.le_trans Z0 q10
        have ne_a9_a10 : a9 ≠ a10 := fun q => absurd (q ▸ A9.lt) (by rw [g10]; exact Nat.lt_irrefl _)
        have LO_10 := LO_9.ext E10
        have O_10 := O_9.ext E10
        have Ea9_10 := A9.ext E10
        have Fa9_value_10 := Fa9_value.ext E10
        have Fa9_coder_10 := Fa9_coder.ext E10
        have K10 := K9.ext E10
        have Va10 : Arv Z h10 a10 k10 .char (2 : Int32) [(.int (0 : Int32)), (.int (0 : Int32))] (.int (0 : Int32)) := (Arv.new A10 (by decide)).pad (pad_rep [] (.int (0 : Int32)) 2)
        refine own_go st10 ?_
        show own_Fin p.tables e below _ (T10.setTop (mkF m 57 #[.val (.int i1), .val (.int (i1 &&& (3 : Int32))), .val (.int (f1 (XT.ushr i1 (2 : Int32)))), .val (.int (f1 (XT.ushr i1 (10 : Int32)))), .val (.int (f1 (XT.ushr i1 (18 : Int32))))] [(.ref a10), (.ref a9), (.ref a9)]))
        refine own_go (fun _ k => XS.dup X10.here hx rfl (hb hby d8_57) rfl rfl k) ?_
        show own_Fin p.tables e below _ (T10.setTop (mkF m 58 #[.val (.int i1), .val (.int (i1 &&& (3 : Int32))), .val (.int (f1 (XT.ushr i1 (2 : Int32)))), .val (.int (f1 (XT.ushr i1 (10 : Int32)))), .val (.int (f1 (XT.ushr i1 (18 : Int32))))] [(.ref a10), (.ref a10), (.ref a9), (.ref a9)]))
        refine own_go (fun _ k => XT.iconstV X10.here hx rfl (0 : Int32) (hb hby d8_58) (by decide) k) ?_
        show own_Fin p.tables e below _ (T10.setTop (mkF m 59 #[.val (.int i1), .val (.int (i1 &&& (3 : Int32))), .val (.int (f1 (XT.ushr i1 (2 : Int32)))), .val (.int (f1 (XT.ushr i1 (10 : Int32)))), .val (.int (f1 (XT.ushr i1 (18 : Int32))))] [(.int (0 : Int32)), (.ref a10), (.ref a10), (.ref a9), (.ref a9)]))
        refine own_go (fun _ k => XS.iloadN X10.here hx rfl (hb hby d8_59) rfl k) ?_
        show own_Fin p.tables e below _ (T10.setTop (mkF m 60 #[.val (.int i1), .val (.int (i1 &&& (3 : Int32))), .val (.int (f1 (XT.ushr i1 (2 : Int32)))), .val (.int (f1 (XT.ushr i1 (10 : Int32)))), .val (.int (f1 (XT.ushr i1 (18 : Int32))))] [(.int (f1 (XT.ushr i1 (2 : Int32)))), (.int (0 : Int32)), (.ref a10), (.ref a10), (.ref a9), (.ref a9)]))
        obtain ⟨c11, Ar11, q11, S11, M11, H11, U11⟩ := id Va10
        obtain ⟨T11, h11, X11, e11, W11, st11⟩ := stC X10 hx hZ e10 Ar11 (j := (0 : Int32)) (inb_of S11 ⟨(by decide), (by decide)⟩) (g := (mkF m 60 #[.val (.int i1), .val (.int (i1 &&& (3 : Int32))), .val (.int (f1 (XT.ushr i1 (2 : Int32)))), .val (.int (f1 (XT.ushr i1 (10 : Int32)))), .val (.int (f1 (XT.ushr i1 (18 : Int32))))] [(.int (f1 (XT.ushr i1 (2 : Int32)))), (.int (0 : Int32)), (.ref a10), (.ref a10), (.ref a9), (.ref a9)])) rfl rfl (hb hby d8_60)
        have K11 := K10.wr W11 (Or.inr q10)
        have N11 := Fr.snoc X11 N3 z10
        have LO_11 := LO_10.keepB (Keep.of_wr W11) q10
        have O_11 := O_10.wr W11 z10
        have Ea9_11 := Ea9_10.wr W11
        have Fa9_value_11 := Fa9_value_10.other W11 (Or.inl ne_a9_a10)
        have Fa9_coder_11 := Fa9_coder_10.other W11 (Or.inl ne_a9_a10)
        have Va10_11 : Arv Z h11 a10 k10 .char (2 : Int32) [(.int (nar .char (f1 (XT.ushr i1 (2 : Int32))))), (.int (0 : Int32))] (.int (0 : Int32)) := Arv.set Ar11 q11 S11 M11 H11 U11 (fits_nar_char _) W11 0 rfl (Nat.le_of_ble_eq_true rfl)
        refine own_go st11 ?_
        show own_Fin p.tables e below _ (T11.setTop (mkF m 61 #[.val (.int i1), .val (.int (i1 &&& (3 : Int32))), .val (.int (f1 (XT.ushr i1 (2 : Int32)))), .val (.int (f1 (XT.ushr i1 (10 : Int32)))), .val (.int (f1 (XT.ushr i1 (18 : Int32))))] [(.ref a10), (.ref a9), (.ref a9)]))
        refine own_go (fun _ k => XS.dup X11.here hx rfl (hb hby d8_61) rfl rfl k) ?_
        show own_Fin p.tables e below _ (T11.setTop (mkF m 62 #[.val (.int i1), .val (.int (i1 &&& (3 : Int32))), .val (.int (f1 (XT.ushr i1 (2 : Int32)))), .val (.int (f1 (XT.ushr i1 (10 : Int32)))), .val (.int (f1 (XT.ushr i1 (18 : Int32))))] [(.ref a10), (.ref a10), (.ref a9), (.ref a9)]))
        refine own_go (fun _ k => XT.iconstV X11.here hx rfl (1 : Int32) (hb hby d8_62) (by decide) k) ?_
        show own_Fin p.tables e below _ (T11.setTop (mkF m 63 #[.val (.int i1), .val (.int (i1 &&& (3 : Int32))), .val (.int (f1 (XT.ushr i1 (2 : Int32)))), .val (.int (f1 (XT.ushr i1 (10 : Int32)))), .val (.int (f1 (XT.ushr i1 (18 : Int32))))] [(.int (1 : Int32)), (.ref a10), (.ref a10), (.ref a9), (.ref a9)]))
        refine own_go (fun _ k => XS.iloadN X11.here hx rfl (hb hby d8_63) rfl k) ?_
        show own_Fin p.tables e below _ (T11.setTop (mkF m 64 #[.val (.int i1), .val (.int (i1 &&& (3 : Int32))), .val (.int (f1 (XT.ushr i1 (2 : Int32)))), .val (.int (f1 (XT.ushr i1 (10 : Int32)))), .val (.int (f1 (XT.ushr i1 (18 : Int32))))] [(.int (f1 (XT.ushr i1 (10 : Int32)))), (.int (1 : Int32)), (.ref a10), (.ref a10), (.ref a9), (.ref a9)]))
        obtain ⟨c12, Ar12, q12, S12, M12, H12, U12⟩ := id Va10_11
        obtain ⟨T12, h12, X12, e12, W12, st12⟩ := stC X11 hx hZ e11 Ar12 (j := (1 : Int32)) (inb_of S12 ⟨(by decide), (by decide)⟩) (g := (mkF m 64 #[.val (.int i1), .val (.int (i1 &&& (3 : Int32))), .val (.int (f1 (XT.ushr i1 (2 : Int32)))), .val (.int (f1 (XT.ushr i1 (10 : Int32)))), .val (.int (f1 (XT.ushr i1 (18 : Int32))))] [(.int (f1 (XT.ushr i1 (10 : Int32)))), (.int (1 : Int32)), (.ref a10), (.ref a10), (.ref a9), (.ref a9)])) rfl rfl (hb hby d8_64)
        have K12 := K11.wr W12 (Or.inr q10)
        have N12 := Fr.snoc X12 N11 z10
        have LO_12 := LO_11.keepB (Keep.of_wr W12) q10
        have O_12 := O_11.wr W12 z10
        have Ea9_12 := Ea9_11.wr W12
        have Fa9_value_12 := Fa9_value_11.other W12 (Or.inl ne_a9_a10)
        have Fa9_coder_12 := Fa9_coder_11.other W12 (Or.inl ne_a9_a10)
        have Va10_12 : Arv Z h12 a10 k10 .char (2 : Int32) [(.int (nar .char (f1 (XT.ushr i1 (2 : Int32))))), (.int (nar .char (f1 (XT.ushr i1 (10 : Int32)))))] (.int (0 : Int32)) := Arv.set Ar12 q12 S12 M12 H12 U12 (fits_nar_char _) W12 1 rfl (Nat.le_of_ble_eq_true rfl)
        refine own_go st12 ?_
        show own_Fin p.tables e below _ (T12.setTop (mkF m 65 #[.val (.int i1), .val (.int (i1 &&& (3 : Int32))), .val (.int (f1 (XT.ushr i1 (2 : Int32)))), .val (.int (f1 (XT.ushr i1 (10 : Int32)))), .val (.int (f1 (XT.ushr i1 (18 : Int32))))] [(.ref a10), (.ref a9), (.ref a9)]))
        have hp13 : ∀ c ∈ ([(nar .char (f1 (XT.ushr i1 (2 : Int32)))), (nar .char (f1 (XT.ushr i1 (10 : Int32))))] : List Int32), ¬ c < 0 ∧ ¬ (255 : Int32) < c := fun c hc => by simp only [List.mem_cons, List.not_mem_nil, or_false] at hc; rcases hc with rfl | rfl <;> exact own_f1n _
        obtain ⟨_, T13, L13, X13, ⟨rfl, M13, KK13, -, Gc13, t13, kb13, zt13, qt13, nt13, Gv13, Ga13⟩, st13⟩ := own_callCB X12 hx hZ hown rfl (hw _ (List.mem_of_getElem? (i := 17) rfl)) (hw _ (List.mem_of_getElem? (i := 18) rfl)) (hw _ (List.mem_of_getElem? (i := 19) rfl)) (by decide) (W := 1) (StrChars.Road.backV (W := 1) hZ hws (kI := 4) (hw _ (List.mem_of_getElem? (i := 9) rfl)) (cs := ([(nar .char (f1 (XT.ushr i1 (2 : Int32)))), (nar .char (f1 (XT.ushr i1 (10 : Int32))))] : List Int32)) (bs := ([(nar .char (f1 (XT.ushr i1 (2 : Int32)))), (nar .char (f1 (XT.ushr i1 (10 : Int32))))] : List Int32).map (fun c => c.toInt8.toInt32)) (n := 2) z9 (Nat.le_trans Z0 K12.1) Ea9_12 Fa9_value_12 Fa9_coder_12 Va10_12 (SC.ext O_12.2) hz rfl rfl (by decide) (by decide) hp13 rfl (by decide) (by decide)) e12 (g := (mkF m 65 #[.val (.int i1), .val (.int (i1 &&& (3 : Int32))), .val (.int (f1 (XT.ushr i1 (2 : Int32)))), .val (.int (f1 (XT.ushr i1 (10 : Int32)))), .val (.int (f1 (XT.ushr i1 (18 : Int32))))] [(.ref a10), (.ref a9), (.ref a9)])) rfl (by rw [hml]; rfl) (argsL := [.ref a10]) (rest := [(.ref a9)]) rfl (lenOf pd8 rfl) rfl (by show 2 * 0 + _ ≤ _; exact Nat.le_of_eq rfl) (hb hby d8_65) (by decide) (by decide)
        have N13 := Fr.app N12 M13
        have LO_13 := LO_12.keepB KK13 q9
        have O_13 := O_12.keep KK13 (allS z9 all0)
        have Ea9_13 := Ea9_12.keep KK13
        have Va10_13 := Va10_12.keep KK13 (ninS (Ne.symm ne_a9_a10) nin0)
        have K13 := K12.trans KK13 (allS (Or.inr q9) all0)
        have S13 : own_Str Z T13.heap a9 ([(nar .char (f1 (XT.ushr i1 (2 : Int32)))), (nar .char (f1 (XT.ushr i1 (10 : Int32))))] : List Int32) T13.heap.size := ⟨Ea9_13, ⟨hp13, Nat.le_of_ble_eq_true rfl⟩, Ea9_13.lt, t13, kb13, Ga13.lt, Gc13, Gv13, Ga13⟩
        refine own_go st13 ?_
        show own_Fin p.tables e below _ (T13.setTop (mkF m 68 #[.val (.int i1), .val (.int (i1 &&& (3 : Int32))), .val (.int (f1 (XT.ushr i1 (2 : Int32)))), .val (.int (f1 (XT.ushr i1 (10 : Int32)))), .val (.int (f1 (XT.ushr i1 (18 : Int32))))] [(.ref a9)]))
        refine own_retAW X13 hx hlk hS0 (Nat.zero_le _) hret rfl rfl (hb hby d8_68) ?_ (by decide) (by decide)
        have hcs : own_cs i1 = ([(nar .char (f1 (XT.ushr i1 (2 : Int32)))), (nar .char (f1 (XT.ushr i1 (10 : Int32))))] : List Int32) := by simp only [own_cs, if_neg hc4, if_neg hc6, if_pos hc8] <;> rfl
        exact ⟨a9, rfl, N13, K13, hcs ▸ S13, (own_LO.warm (LO_13.mono K13.1) X13.warmed)⟩
      · refine own_go (fun _ k => XS.icmpYes X3.here hx rfl (pc0 := 47) (pc' := 69) rfl (hb hby d8_47) rfl (XT.ii_ne_t hc8) (by decide) (by decide) k) ?_
        show own_Fin p.tables e below _ (T3.setTop (mkF m 69 #[.val (.int i1), .val (.int (i1 &&& (3 : Int32))), .val (.int (f1 (XT.ushr i1 (2 : Int32)))), .val (.int (f1 (XT.ushr i1 (10 : Int32)))), .val (.int (f1 (XT.ushr i1 (18 : Int32))))] []))
        obtain ⟨T14, h14, X14, e14, E14, A14, D14, -, st14⟩ := newO X3 hx hZ hown (hw _ (List.mem_of_getElem? (i := 15) rfl)) (hw _ (List.mem_of_getElem? (i := 9) rfl)) (hw _ (List.mem_of_getElem? (i := 8) rfl)) e3 (g := (mkF m 69 #[.val (.int i1), .val (.int (i1 &&& (3 : Int32))), .val (.int (f1 (XT.ushr i1 (2 : Int32)))), .val (.int (f1 (XT.ushr i1 (10 : Int32)))), .val (.int (f1 (XT.ushr i1 (18 : Int32))))] [])) rfl (hb hby d8_69) (by decide) (by decide)
        obtain ⟨a14, g14⟩ : ∃ z, z = h0.size := ⟨_, rfl⟩
        rw [← g14] at A14 D14 st14
        have q14 : h0.size ≤ a14 := Nat.le_trans K0.1 (Nat.le_of_eq g14.symm)
        have z14 : n0 ≤ a14 := Nat.le_trans Z0 q14
        have LO_14 := LO0.ext E14
        have O_14 := O0.ext E14
        have K14 := K0.ext E14
        have Fa14_value : Fld Z h14 a14 "java/lang/String" "value" "[B" .null := D14 (Or.inr (hw _ (List.mem_of_getElem? (i := 11) rfl))) (ty := (.array .byte)) (by decide)
        have Fa14_coder : Fld Z h14 a14 "java/lang/String" "coder" "B" (.int (0 : Int32)) := D14 (Or.inr (hw _ (List.mem_of_getElem? (i := 12) rfl))) (ty := .byte) (by decide)
        refine own_go st14 ?_
        show own_Fin p.tables e below _ (T14.setTop (mkF m 72 #[.val (.int i1), .val (.int (i1 &&& (3 : Int32))), .val (.int (f1 (XT.ushr i1 (2 : Int32)))), .val (.int (f1 (XT.ushr i1 (10 : Int32)))), .val (.int (f1 (XT.ushr i1 (18 : Int32))))] [(.ref a14)]))
        refine own_go (fun _ k => XS.dup X14.here hx rfl (hb hby d8_72) rfl rfl k) ?_
        show own_Fin p.tables e below _ (T14.setTop (mkF m 73 #[.val (.int i1), .val (.int (i1 &&& (3 : Int32))), .val (.int (f1 (XT.ushr i1 (2 : Int32)))), .val (.int (f1 (XT.ushr i1 (10 : Int32)))), .val (.int (f1 (XT.ushr i1 (18 : Int32))))] [(.ref a14), (.ref a14)]))
        refine own_go (fun _ k => XT.iconstV X14.here hx rfl (3 : Int32) (hb hby d8_73) (by decide) k) ?_
        show own_Fin p.tables e below _ (T14.setTop (mkF m 74 #[.val (.int i1), .val (.int (i1 &&& (3 : Int32))), .val (.int (f1 (XT.ushr i1 (2 : Int32)))), .val (.int (f1 (XT.ushr i1 (10 : Int32)))), .val (.int (f1 (XT.ushr i1 (18 : Int32))))] [(.int (3 : Int32)), (.ref a14), (.ref a14)]))
        obtain ⟨T15, h15, k15, X15, e15, E15, A15, st15⟩ := newP X14 hx hZ (hw _ (List.mem_of_getElem? (i := 16) rfl)) e14 (g := (mkF m 74 #[.val (.int i1), .val (.int (i1 &&& (3 : Int32))), .val (.int (f1 (XT.ushr i1 (2 : Int32)))), .val (.int (f1 (XT.ushr i1 (10 : Int32)))), .val (.int (f1 (XT.ushr i1 (18 : Int32))))] [(.int (3 : Int32)), (.ref a14), (.ref a14)])) rfl (hb hby d8_74) rfl (by decide) (cap := 3) (by decide) (by decide) (by decide) (by decide)
        obtain ⟨a15, g15⟩ : ∃ z, z = h14.size := ⟨_, rfl⟩
        rw [← g15] at A15 st15
        have q15 : h0.size ≤ a15 := Nat.le_trans K14.1 (Nat.le_of_eq g15.symm)
        have z15 : n0 ≤ a15 := Nat.le_trans Z0 q15
        have ne_a14_a15 : a14 ≠ a15 := fun q => absurd (q ▸ A14.lt) (by rw [g15]; exact Nat.lt_irrefl _)
        have LO_15 := LO_14.ext E15
        have O_15 := O_14.ext E15
        have Ea14_15 := A14.ext E15
        have Fa14_value_15 := Fa14_value.ext E15
        have Fa14_coder_15 := Fa14_coder.ext E15
        have K15 := K14.ext E15
        have Va15 : Arv Z h15 a15 k15 .char (3 : Int32) [(.int (0 : Int32)), (.int (0 : Int32)), (.int (0 : Int32))] (.int (0 : Int32)) := (Arv.new A15 (by decide)).pad (pad_rep [] (.int (0 : Int32)) 3)
        refine own_go st15 ?_
        show own_Fin p.tables e below _ (T15.setTop (mkF m 76 #[.val (.int i1), .val (.int (i1 &&& (3 : Int32))), .val (.int (f1 (XT.ushr i1 (2 : Int32)))), .val (.int (f1 (XT.ushr i1 (10 : Int32)))), .val (.int (f1 (XT.ushr i1 (18 : Int32))))] [(.ref a15), (.ref a14), (.ref a14)]))
        refine own_go (fun _ k => XS.dup X15.here hx rfl (hb hby d8_76) rfl rfl k) ?_
        show own_Fin p.tables e below _ (T15.setTop (mkF m 77 #[.val (.int i1), .val (.int (i1 &&& (3 : Int32))), .val (.int (f1 (XT.ushr i1 (2 : Int32)))), .val (.int (f1 (XT.ushr i1 (10 : Int32)))), .val (.int (f1 (XT.ushr i1 (18 : Int32))))] [(.ref a15), (.ref a15), (.ref a14), (.ref a14)]))
        refine own_go (fun _ k => XT.iconstV X15.here hx rfl (0 : Int32) (hb hby d8_77) (by decide) k) ?_
        show own_Fin p.tables e below _ (T15.setTop (mkF m 78 #[.val (.int i1), .val (.int (i1 &&& (3 : Int32))), .val (.int (f1 (XT.ushr i1 (2 : Int32)))), .val (.int (f1 (XT.ushr i1 (10 : Int32)))), .val (.int (f1 (XT.ushr i1 (18 : Int32))))] [(.int (0 : Int32)), (.ref a15), (.ref a15), (.ref a14), (.ref a14)]))
        refine own_go (fun _ k => XS.iloadN X15.here hx rfl (hb hby d8_78) rfl k) ?_
        show own_Fin p.tables e below _ (T15.setTop (mkF m 79 #[.val (.int i1), .val (.int (i1 &&& (3 : Int32))), .val (.int (f1 (XT.ushr i1 (2 : Int32)))), .val (.int (f1 (XT.ushr i1 (10 : Int32)))), .val (.int (f1 (XT.ushr i1 (18 : Int32))))] [(.int (f1 (XT.ushr i1 (2 : Int32)))), (.int (0 : Int32)), (.ref a15), (.ref a15), (.ref a14), (.ref a14)]))
        obtain ⟨c16, Ar16, q16, S16, M16, H16, U16⟩ := id Va15
        obtain ⟨T16, h16, X16, e16, W16, st16⟩ := stC X15 hx hZ e15 Ar16 (j := (0 : Int32)) (inb_of S16 ⟨(by decide), (by decide)⟩) (g := (mkF m 79 #[.val (.int i1), .val (.int (i1 &&& (3 : Int32))), .val (.int (f1 (XT.ushr i1 (2 : Int32)))), .val (.int (f1 (XT.ushr i1 (10 : Int32)))), .val (.int (f1 (XT.ushr i1 (18 : Int32))))] [(.int (f1 (XT.ushr i1 (2 : Int32)))), (.int (0 : Int32)), (.ref a15), (.ref a15), (.ref a14), (.ref a14)])) rfl rfl (hb hby d8_79)
        have K16 := K15.wr W16 (Or.inr q15)
        have N16 := Fr.snoc X16 N3 z15
        have LO_16 := LO_15.keepB (Keep.of_wr W16) q15
        have O_16 := O_15.wr W16 z15
        have Ea14_16 := Ea14_15.wr W16
        have Fa14_value_16 := Fa14_value_15.other W16 (Or.inl ne_a14_a15)
        have Fa14_coder_16 := Fa14_coder_15.other W16 (Or.inl ne_a14_a15)
        have Va15_16 : Arv Z h16 a15 k15 .char (3 : Int32) [(.int (nar .char (f1 (XT.ushr i1 (2 : Int32))))), (.int (0 : Int32)), (.int (0 : Int32))] (.int (0 : Int32)) := Arv.set Ar16 q16 S16 M16 H16 U16 (fits_nar_char _) W16 0 rfl (Nat.le_of_ble_eq_true rfl)
        refine own_go st16 ?_
        show own_Fin p.tables e below _ (T16.setTop (mkF m 80 #[.val (.int i1), .val (.int (i1 &&& (3 : Int32))), .val (.int (f1 (XT.ushr i1 (2 : Int32)))), .val (.int (f1 (XT.ushr i1 (10 : Int32)))), .val (.int (f1 (XT.ushr i1 (18 : Int32))))] [(.ref a15), (.ref a14), (.ref a14)]))
        refine own_go (fun _ k => XS.dup X16.here hx rfl (hb hby d8_80) rfl rfl k) ?_
        show own_Fin p.tables e below _ (T16.setTop (mkF m 81 #[.val (.int i1), .val (.int (i1 &&& (3 : Int32))), .val (.int (f1 (XT.ushr i1 (2 : Int32)))), .val (.int (f1 (XT.ushr i1 (10 : Int32)))), .val (.int (f1 (XT.ushr i1 (18 : Int32))))] [(.ref a15), (.ref a15), (.ref a14), (.ref a14)]))
        refine own_go (fun _ k => XT.iconstV X16.here hx rfl (1 : Int32) (hb hby d8_81) (by decide) k) ?_
        show own_Fin p.tables e below _ (T16.setTop (mkF m 82 #[.val (.int i1), .val (.int (i1 &&& (3 : Int32))), .val (.int (f1 (XT.ushr i1 (2 : Int32)))), .val (.int (f1 (XT.ushr i1 (10 : Int32)))), .val (.int (f1 (XT.ushr i1 (18 : Int32))))] [(.int (1 : Int32)), (.ref a15), (.ref a15), (.ref a14), (.ref a14)]))
        refine own_go (fun _ k => XS.iloadN X16.here hx rfl (hb hby d8_82) rfl k) ?_
        show own_Fin p.tables e below _ (T16.setTop (mkF m 83 #[.val (.int i1), .val (.int (i1 &&& (3 : Int32))), .val (.int (f1 (XT.ushr i1 (2 : Int32)))), .val (.int (f1 (XT.ushr i1 (10 : Int32)))), .val (.int (f1 (XT.ushr i1 (18 : Int32))))] [(.int (f1 (XT.ushr i1 (10 : Int32)))), (.int (1 : Int32)), (.ref a15), (.ref a15), (.ref a14), (.ref a14)]))
        obtain ⟨c17, Ar17, q17, S17, M17, H17, U17⟩ := id Va15_16
        obtain ⟨T17, h17, X17, e17, W17, st17⟩ := stC X16 hx hZ e16 Ar17 (j := (1 : Int32)) (inb_of S17 ⟨(by decide), (by decide)⟩) (g := (mkF m 83 #[.val (.int i1), .val (.int (i1 &&& (3 : Int32))), .val (.int (f1 (XT.ushr i1 (2 : Int32)))), .val (.int (f1 (XT.ushr i1 (10 : Int32)))), .val (.int (f1 (XT.ushr i1 (18 : Int32))))] [(.int (f1 (XT.ushr i1 (10 : Int32)))), (.int (1 : Int32)), (.ref a15), (.ref a15), (.ref a14), (.ref a14)])) rfl rfl (hb hby d8_83)
        have K17 := K16.wr W17 (Or.inr q15)
        have N17 := Fr.snoc X17 N16 z15
        have LO_17 := LO_16.keepB (Keep.of_wr W17) q15
        have O_17 := O_16.wr W17 z15
        have Ea14_17 := Ea14_16.wr W17
        have Fa14_value_17 := Fa14_value_16.other W17 (Or.inl ne_a14_a15)
        have Fa14_coder_17 := Fa14_coder_16.other W17 (Or.inl ne_a14_a15)
        have Va15_17 : Arv Z h17 a15 k15 .char (3 : Int32) [(.int (nar .char (f1 (XT.ushr i1 (2 : Int32))))), (.int (nar .char (f1 (XT.ushr i1 (10 : Int32))))), (.int (0 : Int32))] (.int (0 : Int32)) := Arv.set Ar17 q17 S17 M17 H17 U17 (fits_nar_char _) W17 1 rfl (Nat.le_of_ble_eq_true rfl)
        refine own_go st17 ?_
        show own_Fin p.tables e below _ (T17.setTop (mkF m 84 #[.val (.int i1), .val (.int (i1 &&& (3 : Int32))), .val (.int (f1 (XT.ushr i1 (2 : Int32)))), .val (.int (f1 (XT.ushr i1 (10 : Int32)))), .val (.int (f1 (XT.ushr i1 (18 : Int32))))] [(.ref a15), (.ref a14), (.ref a14)]))
        refine own_go (fun _ k => XS.dup X17.here hx rfl (hb hby d8_84) rfl rfl k) ?_
        show own_Fin p.tables e below _ (T17.setTop (mkF m 85 #[.val (.int i1), .val (.int (i1 &&& (3 : Int32))), .val (.int (f1 (XT.ushr i1 (2 : Int32)))), .val (.int (f1 (XT.ushr i1 (10 : Int32)))), .val (.int (f1 (XT.ushr i1 (18 : Int32))))] [(.ref a15), (.ref a15), (.ref a14), (.ref a14)]))
        refine own_go (fun _ k => XT.iconstV X17.here hx rfl (2 : Int32) (hb hby d8_85) (by decide) k) ?_
        show own_Fin p.tables e below _ (T17.setTop (mkF m 86 #[.val (.int i1), .val (.int (i1 &&& (3 : Int32))), .val (.int (f1 (XT.ushr i1 (2 : Int32)))), .val (.int (f1 (XT.ushr i1 (10 : Int32)))), .val (.int (f1 (XT.ushr i1 (18 : Int32))))] [(.int (2 : Int32)), (.ref a15), (.ref a15), (.ref a14), (.ref a14)]))
        refine own_go (fun _ k => XS.iload X17.here hx rfl (hb hby d8_86) rfl k) ?_
        show own_Fin p.tables e below _ (T17.setTop (mkF m 88 #[.val (.int i1), .val (.int (i1 &&& (3 : Int32))), .val (.int (f1 (XT.ushr i1 (2 : Int32)))), .val (.int (f1 (XT.ushr i1 (10 : Int32)))), .val (.int (f1 (XT.ushr i1 (18 : Int32))))] [(.int (f1 (XT.ushr i1 (18 : Int32)))), (.int (2 : Int32)), (.ref a15), (.ref a15), (.ref a14), (.ref a14)]))
        obtain ⟨c18, Ar18, q18, S18, M18, H18, U18⟩ := id Va15_17
        obtain ⟨T18, h18, X18, e18, W18, st18⟩ := stC X17 hx hZ e17 Ar18 (j := (2 : Int32)) (inb_of S18 ⟨(by decide), (by decide)⟩) (g := (mkF m 88 #[.val (.int i1), .val (.int (i1 &&& (3 : Int32))), .val (.int (f1 (XT.ushr i1 (2 : Int32)))), .val (.int (f1 (XT.ushr i1 (10 : Int32)))), .val (.int (f1 (XT.ushr i1 (18 : Int32))))] [(.int (f1 (XT.ushr i1 (18 : Int32)))), (.int (2 : Int32)), (.ref a15), (.ref a15), (.ref a14), (.ref a14)])) rfl rfl (hb hby d8_88)
        have K18 := K17.wr W18 (Or.inr q15)
        have N18 := Fr.snoc X18 N17 z15
        have LO_18 := LO_17.keepB (Keep.of_wr W18) q15
        have O_18 := O_17.wr W18 z15
        have Ea14_18 := Ea14_17.wr W18
        have Fa14_value_18 := Fa14_value_17.other W18 (Or.inl ne_a14_a15)
        have Fa14_coder_18 := Fa14_coder_17.other W18 (Or.inl ne_a14_a15)
        have Va15_18 : Arv Z h18 a15 k15 .char (3 : Int32) [(.int (nar .char (f1 (XT.ushr i1 (2 : Int32))))), (.int (nar .char (f1 (XT.ushr i1 (10 : Int32))))), (.int (nar .char (f1 (XT.ushr i1 (18 : Int32)))))] (.int (0 : Int32)) := Arv.set Ar18 q18 S18 M18 H18 U18 (fits_nar_char _) W18 2 rfl (Nat.le_of_ble_eq_true rfl)
        refine own_go st18 ?_
        show own_Fin p.tables e below _ (T18.setTop (mkF m 89 #[.val (.int i1), .val (.int (i1 &&& (3 : Int32))), .val (.int (f1 (XT.ushr i1 (2 : Int32)))), .val (.int (f1 (XT.ushr i1 (10 : Int32)))), .val (.int (f1 (XT.ushr i1 (18 : Int32))))] [(.ref a15), (.ref a14), (.ref a14)]))
        have hp19 : ∀ c ∈ ([(nar .char (f1 (XT.ushr i1 (2 : Int32)))), (nar .char (f1 (XT.ushr i1 (10 : Int32)))), (nar .char (f1 (XT.ushr i1 (18 : Int32))))] : List Int32), ¬ c < 0 ∧ ¬ (255 : Int32) < c := fun c hc => by simp only [List.mem_cons, List.not_mem_nil, or_false] at hc; rcases hc with rfl | rfl | rfl <;> exact own_f1n _
        obtain ⟨_, T19, L19, X19, ⟨rfl, M19, KK19, -, Gc19, t19, kb19, zt19, qt19, nt19, Gv19, Ga19⟩, st19⟩ := own_callCB X18 hx hZ hown rfl (hw _ (List.mem_of_getElem? (i := 17) rfl)) (hw _ (List.mem_of_getElem? (i := 18) rfl)) (hw _ (List.mem_of_getElem? (i := 19) rfl)) (by decide) (W := 1) (StrChars.Road.backV (W := 1) hZ hws (kI := 4) (hw _ (List.mem_of_getElem? (i := 9) rfl)) (cs := ([(nar .char (f1 (XT.ushr i1 (2 : Int32)))), (nar .char (f1 (XT.ushr i1 (10 : Int32)))), (nar .char (f1 (XT.ushr i1 (18 : Int32))))] : List Int32)) (bs := ([(nar .char (f1 (XT.ushr i1 (2 : Int32)))), (nar .char (f1 (XT.ushr i1 (10 : Int32)))), (nar .char (f1 (XT.ushr i1 (18 : Int32))))] : List Int32).map (fun c => c.toInt8.toInt32)) (n := 3) z14 (Nat.le_trans Z0 K18.1) Ea14_18 Fa14_value_18 Fa14_coder_18 Va15_18 (SC.ext O_18.2) hz rfl rfl (by decide) (by decide) hp19 rfl (by decide) (by decide)) e18 (g := (mkF m 89 #[.val (.int i1), .val (.int (i1 &&& (3 : Int32))), .val (.int (f1 (XT.ushr i1 (2 : Int32)))), .val (.int (f1 (XT.ushr i1 (10 : Int32)))), .val (.int (f1 (XT.ushr i1 (18 : Int32))))] [(.ref a15), (.ref a14), (.ref a14)])) rfl (by rw [hml]; rfl) (argsL := [.ref a15]) (rest := [(.ref a14)]) rfl (lenOf pd8 rfl) rfl (by show 2 * 0 + _ ≤ _; exact Nat.le_of_eq rfl) (hb hby d8_89) (by decide) (by decide)
        have N19 := Fr.app N18 M19
        have LO_19 := LO_18.keepB KK19 q14
        have O_19 := O_18.keep KK19 (allS z14 all0)
        have Ea14_19 := Ea14_18.keep KK19
        have Va15_19 := Va15_18.keep KK19 (ninS (Ne.symm ne_a14_a15) nin0)
        have K19 := K18.trans KK19 (allS (Or.inr q14) all0)
        have S19 : own_Str Z T19.heap a14 ([(nar .char (f1 (XT.ushr i1 (2 : Int32)))), (nar .char (f1 (XT.ushr i1 (10 : Int32)))), (nar .char (f1 (XT.ushr i1 (18 : Int32))))] : List Int32) T19.heap.size := ⟨Ea14_19, ⟨hp19, Nat.le_of_ble_eq_true rfl⟩, Ea14_19.lt, t19, kb19, Ga19.lt, Gc19, Gv19, Ga19⟩
        refine own_go st19 ?_
        show own_Fin p.tables e below _ (T19.setTop (mkF m 92 #[.val (.int i1), .val (.int (i1 &&& (3 : Int32))), .val (.int (f1 (XT.ushr i1 (2 : Int32)))), .val (.int (f1 (XT.ushr i1 (10 : Int32)))), .val (.int (f1 (XT.ushr i1 (18 : Int32))))] [(.ref a14)]))
        refine own_retAW X19 hx hlk hS0 (Nat.zero_le _) hret rfl rfl (hb hby d8_92) ?_ (by decide) (by decide)
        have hcs : own_cs i1 = ([(nar .char (f1 (XT.ushr i1 (2 : Int32)))), (nar .char (f1 (XT.ushr i1 (10 : Int32)))), (nar .char (f1 (XT.ushr i1 (18 : Int32))))] : List Int32) := by simp only [own_cs, if_neg hc4, if_neg hc6, if_neg hc8] <;> rfl
        exact ⟨a14, rfl, N19, K19, hcs ▸ S19, (own_LO.warm (LO_19.mono K19.1) X19.warmed)⟩
theorem d9_0 : decode jdk_30_method_1_code 0 = .ok (.aload_n 0, 1) := by decide +kernel
theorem d9_1 : decode jdk_30_method_1_code 1 = .ok (.invokespecial 1, 3) := by decide +kernel
theorem d9_4 : decode jdk_30_method_1_code 4 = .ok (.return_, 1) := by decide +kernel
theorem pn3 : plainName "java/lang/Record" = true := by first | (simp [plainName, overriddenIn]; done) | decide +kernel
theorem pd10 : parseMethodDescriptor "()V" = some ⟨[], none⟩ := by decide +kernel
theorem ef9 (m : MethodId) (r0 : Addr) : entryFrame m #[(.ref r0)] 1 = mkF m 0 #[.val (.ref r0)] [] := by first | (simp [entryFrame, mkF, argsToLocals, Value.category]; done) | rfl
set_option maxRecDepth 65536 in
set_option maxHeartbeats 40000000 in
theorem rm9 (l : Launch) (Z : State) (a0 : Array Value) (hw : ∀ d ∈ tables_1, d.before a0 Z = true) (ws : List Jvm.Cond) (r0 : Addr) (h0 : Heap) (n0 : Nat) (Z0 : n0 ≤ h0.size)  :
    own_Met l (⟨"java/lang/Record", "<init>", "()V"⟩ : MethodName) jdk_30_method_1_code 1 none ({ frames := 1, cells := 0, slots := 0, locals := 12 } : Room) ws #[(.ref r0)] Z h0 0 0 (own_QP none h0 n0) := by
  refine own_met (plainFor_of_name pn3) ?_
  intro p e s m below meth c s₁ hx hby hml hown hnm hret hlk hZ e0 X0
  have hml : c.maxLocals = 1 := hml
  have N0 := Fr.nil n0
  have K0 := Keep.refl h0 []
  refine own_go (fun _ k => castTop (ef9 m r0) k) ?_
  show own_Fin p.tables e below _ (s₁.setTop (mkF m 0 #[.val (.ref r0)] []))
  refine own_go (fun _ k => XS.aloadN X0.here hx rfl (hb hby d9_0) rfl rfl k) ?_
  show own_Fin p.tables e below _ (s₁.setTop (mkF m 1 #[.val (.ref r0)] [(.ref r0)]))
  obtain ⟨T1, X1, e1, st1⟩ := initO X0 hx hZ hown (hw _ (List.mem_of_getElem? (i := 65) rfl)) (hw _ (List.mem_of_getElem? (i := 25) rfl)) (hw _ (List.mem_of_getElem? (i := 26) rfl)) e0 (g := (mkF m 1 #[.val (.ref r0)] [(.ref r0)])) rfl (by rw [hml]; rfl) rfl (hb hby d9_1) (by decide) (W := 0) (by show 2 * 0 + _ ≤ _; exact Nat.le_of_eq rfl) (by decide)
  refine own_go st1 ?_
  show own_Fin p.tables e below _ (T1.setTop (mkF m 4 #[.val (.ref r0)] []))
  refine own_retV X1 hx hlk hret (hb hby d9_4) ?_ (by decide) (by decide)
  exact ⟨rfl, N0, e1⟩
theorem d10_0 : decode prog_25_method_1_code 0 = .ok (.aload_n 0, 1) := by decide +kernel
theorem d10_1 : decode prog_25_method_1_code 1 = .ok (.invokespecial 3, 3) := by decide +kernel
theorem d10_4 : decode prog_25_method_1_code 4 = .ok (.aload_n 0, 1) := by decide +kernel
theorem d10_5 : decode prog_25_method_1_code 5 = .ok (.aload_n 1, 1) := by decide +kernel
theorem d10_6 : decode prog_25_method_1_code 6 = .ok (.putfield 9, 3) := by decide +kernel
theorem d10_9 : decode prog_25_method_1_code 9 = .ok (.aload_n 0, 1) := by decide +kernel
theorem d10_10 : decode prog_25_method_1_code 10 = .ok (.aload_n 2, 1) := by decide +kernel
theorem d10_11 : decode prog_25_method_1_code 11 = .ok (.putfield 15, 3) := by decide +kernel
theorem d10_14 : decode prog_25_method_1_code 14 = .ok (.return_, 1) := by decide +kernel
theorem pn4 : plainName "com/example/grantline/grantline/eval/CredentialTarget$Owner" = true := by first | (simp [plainName, overriddenIn]; done) | decide +kernel
theorem pd11 : parseMethodDescriptor "(Ljava/lang/String;Ljava/lang/String;)V" = some ⟨[(.object "java/lang/String"), (.object "java/lang/String")], none⟩ := by decide +kernel
theorem ef10 (m : MethodId) (r0 : Addr) (r1 : Addr) (r2 : Addr) : entryFrame m #[(.ref r0), (.ref r1), (.ref r2)] 3 = mkF m 0 #[.val (.ref r0), .val (.ref r1), .val (.ref r2)] [] := by first | (simp [entryFrame, mkF, argsToLocals, Value.category]; done) | rfl
set_option maxRecDepth 65536 in
set_option maxHeartbeats 40000000 in
theorem rm10 (l : Launch) (Z : State) (a0 : Array Value) (hw : ∀ d ∈ tables_1, d.before a0 Z = true) (ws : List Jvm.Cond) (r0 : Addr) (r1 : Addr) (r2 : Addr) (u_principalClass : Value) (u_name : Value) (h0 : Heap) (n0 : Nat) (Z0 : n0 ≤ h0.size) (E_a : Exa Z h0 r0 "com/example/grantline/grantline/eval/CredentialTarget$Owner") (F_principalClass : Fld Z h0 r0 "com/example/grantline/grantline/eval/CredentialTarget$Owner" "principalClass" "Ljava/lang/String;" u_principalClass) (F_name : Fld Z h0 r0 "com/example/grantline/grantline/eval/CredentialTarget$Owner" "name" "Ljava/lang/String;" u_name) (g_a : n0 ≤ r0) :
    own_Met l (⟨"com/example/grantline/grantline/eval/CredentialTarget$Owner", "<init>", "(Ljava/lang/String;Ljava/lang/String;)V"⟩ : MethodName) prog_25_method_1_code 3 none ({ frames := 2, cells := 0, slots := 0, locals := 24 } : Room) ws #[(.ref r0), (.ref r1), (.ref r2)] Z h0 0 0 (fun v h L => v = none ∧ Fr n0 L ∧ Keep h0 h [r0] ∧ Exa Z h r0 "com/example/grantline/grantline/eval/CredentialTarget$Owner" ∧ Fld Z h r0 "com/example/grantline/grantline/eval/CredentialTarget$Owner" "principalClass" "Ljava/lang/String;" (.ref r1) ∧ Fld Z h r0 "com/example/grantline/grantline/eval/CredentialTarget$Owner" "name" "Ljava/lang/String;" (.ref r2)) := by
  refine own_met (plainFor_of_name pn4) ?_
  intro p e s m below meth c s₁ hx hby hml hown hnm hret hlk hZ e0 X0
  have hml : c.maxLocals = 3 := hml
  have N0 := Fr.nil n0
  have K0 := Keep.refl h0 [r0]
  refine own_go (fun _ k => castTop (ef10 m r0 r1 r2) k) ?_
  show own_Fin p.tables e below _ (s₁.setTop (mkF m 0 #[.val (.ref r0), .val (.ref r1), .val (.ref r2)] []))
  refine own_go (fun _ k => XS.aloadN X0.here hx rfl (hb hby d10_0) rfl rfl k) ?_
  show own_Fin p.tables e below _ (s₁.setTop (mkF m 1 #[.val (.ref r0), .val (.ref r1), .val (.ref r2)] [(.ref r0)]))
  obtain ⟨_, T1, L1, X1, ⟨rfl, M1, e1⟩, st1⟩ := own_callC X0 hx hZ hown rfl (hw _ (List.mem_of_getElem? (i := 60) rfl)) (hw _ (List.mem_of_getElem? (i := 61) rfl)) (hw _ (List.mem_of_getElem? (i := 63) rfl)) (hw _ (List.mem_of_getElem? (i := 64) rfl)) (by decide) (W := 0) (rm9 l Z a0 hw [] r0 h0 n0 (Nat.le_trans Z0 K0.1) ) (by decide) (by decide) e0 (g := (mkF m 1 #[.val (.ref r0), .val (.ref r1), .val (.ref r2)] [(.ref r0)])) rfl (by rw [hml]; rfl) (argsL := []) (rest := []) rfl (lenOf pd10 rfl) rfl (by show 2 * 0 + _ ≤ _; exact Nat.le_of_eq rfl) (hb hby d10_1) (by decide) (by decide)
  have N1 := Fr.app N0 M1
  refine own_go st1 ?_
  show own_Fin p.tables e below _ (T1.setTop (mkF m 4 #[.val (.ref r0), .val (.ref r1), .val (.ref r2)] []))
  refine own_go (fun _ k => XS.aloadN X1.here hx rfl (hb hby d10_4) rfl rfl k) ?_
  show own_Fin p.tables e below _ (T1.setTop (mkF m 5 #[.val (.ref r0), .val (.ref r1), .val (.ref r2)] [(.ref r0)]))
  refine own_go (fun _ k => XS.aloadN X1.here hx rfl (hb hby d10_5) rfl rfl k) ?_
  show own_Fin p.tables e below _ (T1.setTop (mkF m 6 #[.val (.ref r0), .val (.ref r1), .val (.ref r2)] [(.ref r1), (.ref r0)]))
  obtain ⟨T2, h2, X2, e2, W2, st2⟩ := putF X1 hx hZ hown (host := "") (Or.inl (hw _ (List.mem_of_getElem? (i := 66) rfl))) Via.refl e1 F_principalClass E_a (Or.inr ⟨(hw _ (List.mem_of_getElem? (i := 67) rfl)), rfl, hnm⟩) (hw _ (List.mem_of_getElem? (i := 55) rfl)) (ty := (.object "java/lang/String")) (by decide) rfl rfl (g := (mkF m 6 #[.val (.ref r0), .val (.ref r1), .val (.ref r2)] [(.ref r1), (.ref r0)])) rfl rfl (hb hby d10_6)
  have K2 := K0.wr W2 (Or.inl (List.mem_of_getElem? (i := 0) rfl))
  have N2 := Fr.snoc X2 N1 g_a
  have Er0_2 := E_a.wr W2
  have Fr0_principalClass_2 := F_principalClass.same W2
  have Fr0_name_2 := F_name.other W2 (Or.inr (slot_ne (Or.inr (hw _ (List.mem_of_getElem? (i := 69) rfl))) (Or.inr (hw _ (List.mem_of_getElem? (i := 67) rfl))) (by decide) (t := (.object "java/lang/String")) (t' := (.object "java/lang/String")) (by decide) (by decide)))
  refine own_go st2 ?_
  show own_Fin p.tables e below _ (T2.setTop (mkF m 9 #[.val (.ref r0), .val (.ref r1), .val (.ref r2)] []))
  refine own_go (fun _ k => XS.aloadN X2.here hx rfl (hb hby d10_9) rfl rfl k) ?_
  show own_Fin p.tables e below _ (T2.setTop (mkF m 10 #[.val (.ref r0), .val (.ref r1), .val (.ref r2)] [(.ref r0)]))
  refine own_go (fun _ k => XS.aloadN X2.here hx rfl (hb hby d10_10) rfl rfl k) ?_
  show own_Fin p.tables e below _ (T2.setTop (mkF m 11 #[.val (.ref r0), .val (.ref r1), .val (.ref r2)] [(.ref r2), (.ref r0)]))
  obtain ⟨T3, h3, X3, e3, W3, st3⟩ := putF X2 hx hZ hown (host := "") (Or.inl (hw _ (List.mem_of_getElem? (i := 68) rfl))) Via.refl e2 Fr0_name_2 Er0_2 (Or.inr ⟨(hw _ (List.mem_of_getElem? (i := 69) rfl)), rfl, hnm⟩) (hw _ (List.mem_of_getElem? (i := 55) rfl)) (ty := (.object "java/lang/String")) (by decide) rfl rfl (g := (mkF m 11 #[.val (.ref r0), .val (.ref r1), .val (.ref r2)] [(.ref r2), (.ref r0)])) rfl rfl (hb hby d10_11)
  have K3 := K2.wr W3 (Or.inl (List.mem_of_getElem? (i := 0) rfl))
  have N3 := Fr.snoc X3 N2 g_a
  have Er0_3 := Er0_2.wr W3
  have Fr0_principalClass_3 := Fr0_principalClass_2.other W3 (Or.inr (slot_ne (Or.inr (hw _ (List.mem_of_getElem? (i := 67) rfl))) (Or.inr (hw _ (List.mem_of_getElem? (i := 69) rfl))) (by decide) (t := (.object "java/lang/String")) (t' := (.object "java/lang/String")) (by decide) (by decide)))
  have Fr0_name_3 := Fr0_name_2.same W3
  refine own_go st3 ?_
  show own_Fin p.tables e below _ (T3.setTop (mkF m 14 #[.val (.ref r0), .val (.ref r1), .val (.ref r2)] []))
  refine own_retV X3 hx hlk hret (hb hby d10_14) ?_ (by decide) (by decide)
  show _ ∧ _ ∧ Keep h0 T3.heap _ ∧ _
  rw [e3]
  exact ⟨rfl, N3, K3, Er0_3, Fr0_principalClass_3, Fr0_name_3⟩
theorem pd12 : parseMethodDescriptor "(Ljava/lang/Object;)Z" = some ⟨[(.object "java/lang/Object")], some .boolean⟩ := by decide +kernel
theorem d11_0 : decode prog_25_method_2_code 0 = .ok (.aload_n 0, 1) := by decide +kernel
theorem d11_1 : decode prog_25_method_2_code 1 = .ok (.getfield 9, 3) := by decide +kernel
theorem d11_4 : decode prog_25_method_2_code 4 = .ok (.ldc 18, 2) := by decide +kernel
theorem d11_6 : decode prog_25_method_2_code 6 = .ok (.invokevirtual 20, 3) := by decide +kernel
theorem d11_9 : decode prog_25_method_2_code 9 = .ok (.ifCond .ne 17, 3) := by decide +kernel
theorem d11_12 : decode prog_25_method_2_code 12 = .ok (.aload_n 0, 1) := by decide +kernel
theorem d11_13 : decode prog_25_method_2_code 13 = .ok (.getfield 9, 3) := by decide +kernel
theorem d11_16 : decode prog_25_method_2_code 16 = .ok (.aload_n 1, 1) := by decide +kernel
theorem d11_17 : decode prog_25_method_2_code 17 = .ok (.getfield 9, 3) := by decide +kernel
theorem d11_20 : decode prog_25_method_2_code 20 = .ok (.invokevirtual 20, 3) := by decide +kernel
theorem d11_23 : decode prog_25_method_2_code 23 = .ok (.ifCond .eq 33, 3) := by decide +kernel
theorem d11_26 : decode prog_25_method_2_code 26 = .ok (.aload_n 0, 1) := by decide +kernel
theorem d11_27 : decode prog_25_method_2_code 27 = .ok (.getfield 15, 3) := by decide +kernel
theorem d11_30 : decode prog_25_method_2_code 30 = .ok (.ldc 18, 2) := by decide +kernel
theorem d11_32 : decode prog_25_method_2_code 32 = .ok (.invokevirtual 20, 3) := by decide +kernel
theorem d11_35 : decode prog_25_method_2_code 35 = .ok (.ifCond .ne 17, 3) := by decide +kernel
theorem d11_38 : decode prog_25_method_2_code 38 = .ok (.aload_n 0, 1) := by decide +kernel
theorem d11_39 : decode prog_25_method_2_code 39 = .ok (.getfield 15, 3) := by decide +kernel
theorem d11_42 : decode prog_25_method_2_code 42 = .ok (.aload_n 1, 1) := by decide +kernel
theorem d11_43 : decode prog_25_method_2_code 43 = .ok (.getfield 15, 3) := by decide +kernel
theorem d11_46 : decode prog_25_method_2_code 46 = .ok (.invokevirtual 20, 3) := by decide +kernel
theorem d11_49 : decode prog_25_method_2_code 49 = .ok (.ifCond .eq 7, 3) := by decide +kernel
theorem d11_52 : decode prog_25_method_2_code 52 = .ok (.iconst 1, 1) := by decide +kernel
theorem d11_53 : decode prog_25_method_2_code 53 = .ok (.goto 4, 3) := by decide +kernel
theorem d11_56 : decode prog_25_method_2_code 56 = .ok (.iconst 0, 1) := by decide +kernel
theorem d11_57 : decode prog_25_method_2_code 57 = .ok (.ireturn, 1) := by decide +kernel
theorem pd13 : parseMethodDescriptor "(Lcom/example/grantline/grantline/eval/CredentialTarget$Owner;)Z" = some ⟨[(.object "com/example/grantline/grantline/eval/CredentialTarget$Owner")], some .boolean⟩ := by decide +kernel
theorem ef11 (m : MethodId) (r0 : Addr) (r1 : Addr) : entryFrame m #[(.ref r0), (.ref r1)] 2 = mkF m 0 #[.val (.ref r0), .val (.ref r1)] [] := by first | (simp [entryFrame, mkF, argsToLocals, Value.category]; done) | rfl
def f11 (c1 c2 c3 c4 : List Int32) : Int32 := (if (own_eq c1 ([42] : List Int32)) = (0 : Int32) then (if (own_eq c1 c3) = (0 : Int32) then (0 : Int32) else (if (own_eq c2 ([42] : List Int32)) = (0 : Int32) then (if (own_eq c2 c4) = (0 : Int32) then (0 : Int32) else (1 : Int32)) else (1 : Int32))) else (if (own_eq c2 ([42] : List Int32)) = (0 : Int32) then (if (own_eq c2 c4) = (0 : Int32) then (0 : Int32) else (1 : Int32)) else (1 : Int32)))
set_option maxRecDepth 65536 in
set_option maxHeartbeats 40000000 in
theorem rm11 (l : Launch) (Z : State) (a0 : Array Value) (hw : ∀ d ∈ tables_1, d.before a0 Z = true) (ws : List Jvm.Cond) (r0 : Addr) (r1 : Addr)  (h0 : Heap) (n0 : Nat) (Z0 : n0 ≤ h0.size) (c1 : List Int32) (c2 : List Int32) (c3 : List Int32) (c4 : List Int32) (r2 : Addr) (r3 : Addr) (r4 : Addr) (r5 : Addr) (B1 : Nat) (B2 : Nat) (B3 : Nat) (B4 : Nat) (FP1 : Fld Z h0 r0 "com/example/grantline/grantline/eval/CredentialTarget$Owner" "principalClass" "Ljava/lang/String;" (.ref r2)) (FP2 : Fld Z h0 r0 "com/example/grantline/grantline/eval/CredentialTarget$Owner" "name" "Ljava/lang/String;" (.ref r3)) (FP3 : Fld Z h0 r1 "com/example/grantline/grantline/eval/CredentialTarget$Owner" "principalClass" "Ljava/lang/String;" (.ref r4)) (FP4 : Fld Z h0 r1 "com/example/grantline/grantline/eval/CredentialTarget$Owner" "name" "Ljava/lang/String;" (.ref r5)) (SP1 : own_Str Z h0 r2 c1 B1) (SP2 : own_Str Z h0 r3 c2 B2) (SP3 : own_Str Z h0 r4 c3 B3) (SP4 : own_Str Z h0 r5 c4 B4) (ic : Int32) (SC : Sta Z Z.heap "java/lang/String" "COMPACT_STRINGS" "Z" (.int ic)) (hz : ¬ ic = 0) (O0 : Old Z n0 h0) (hl0 : Jvm.Lit.constHeld Z "com/example/grantline/grantline/eval/OwnerCoversPinLaw" 40) (hl1 : Jvm.Lit.constHeld Z "com/example/grantline/grantline/eval/CredentialTarget$Owner" 18) (hcw : Jvm.Lit.compactW.before a0 Z = true) :
    own_MetW l (⟨"com/example/grantline/grantline/eval/CredentialTarget$Owner", "covers", "(Lcom/example/grantline/grantline/eval/CredentialTarget$Owner;)Z"⟩ : MethodName) prog_25_method_2_code 2 (some .boolean) ({ frames := 2, cells := 4, slots := 16, locals := 28 } : Room) ws #[(.ref r0), (.ref r1)] Z h0 (fun vm => own_LO Z vm h0 h0.size) 4 16 (fun v h vm L => v = some (.int (f11 c1 c2 c3 c4)) ∧ Fr n0 L ∧ Keep h0 h [] ∧ own_LO Z vm h h.size) := by
  refine own_metW (plainFor_of_name pn4) ?_
  intro p e s m below meth c s₁ hx hby hml hown hnm hret hlk hZ hh0 e0 LO0 hS0 X0
  have hml : c.maxLocals = 2 := hml
  have N0 := Fr.nil n0
  have K0 := Keep.refl h0 []
  have hwe : ∀ d ∈ StrChars.Road.wordsEq, d.before a0 Z = true := fun d hd => hw d ((by decide +kernel : ∀ d ∈ StrChars.Road.wordsEq, d ∈ tables_1) d hd)
  have hsa : ∀ d ∈ Bundle.stringAtoms, d.before a0 Z = true := fun d hd => hw d ((by decide +kernel : ∀ d ∈ Bundle.stringAtoms, d ∈ tables_1) d hd)
  have hkeep : ∀ (b : Addr) (cl : Cell), Z.heap[b]? = some cl → s.heap[b]? = some cl := fun b cl q => by rw [hh0]; exact O0.2.2 b cl q
  refine own_go (fun _ k => castTop (ef11 m r0 r1) k) ?_
  show own_Fin p.tables e below _ (s₁.setTop (mkF m 0 #[.val (.ref r0), .val (.ref r1)] []))
  refine own_go (fun _ k => XS.aloadN X0.here hx rfl (hb hby d11_0) rfl rfl k) ?_
  show own_Fin p.tables e below _ (s₁.setTop (mkF m 1 #[.val (.ref r0), .val (.ref r1)] [(.ref r0)]))
  obtain ⟨T1, X1, e1, st1⟩ := getF X0 hx hZ hown (host := "") (Or.inl (hw _ (List.mem_of_getElem? (i := 66) rfl))) Via.refl e0 FP1 (g := (mkF m 1 #[.val (.ref r0), .val (.ref r1)] [(.ref r0)])) rfl rfl (hb hby d11_1)
  refine own_go st1 ?_
  show own_Fin p.tables e below _ (T1.setTop (mkF m 4 #[.val (.ref r0), .val (.ref r1)] [(.ref r2)]))
  obtain ⟨al2, T2, _, X2, rfl, E2, hS2, hZ2, ho2, S2, LO2, Lt2, st2⟩ := own_load X1 hx hZ hS0 (Nat.zero_le _) hown (hw _ (List.mem_of_getElem? (i := 91) rfl)) hsa e1 (Fr.nil s.heap.size) hkeep (LO0.mono K0.1) own_lm1 own_ld1 hl1 hcw own_lt1 own_lc1 (g := (mkF m 4 #[.val (.ref r0), .val (.ref r1)] [(.ref r2)])) rfl (hb hby d11_4) (n := 4) (by decide) (by decide) (by decide) (by decide)
  have O_2 := O0.ext E2
  have Fr0_principalClass_2 := FP1.ext E2
  have Strr2_2 := SP1.ext E2
  have Fr0_name_2 := FP2.ext E2
  have Strr3_2 := SP2.ext E2
  have Fr1_principalClass_2 := FP3.ext E2
  have Strr4_2 := SP3.ext E2
  have Fr1_name_2 := FP4.ext E2
  have Strr5_2 := SP4.ext E2
  have K2 := K0.ext E2
  refine own_go st2 ?_
  show own_Fin p.tables e below _ (T2.setTop (mkF m 6 #[.val (.ref r0), .val (.ref r1)] [(.ref al2), (.ref r2)]))
  obtain ⟨Ex3, cx3, -, tx3, kx3, -, Cx3, Vx3, Ax3⟩ := id Strr2_2
  obtain ⟨Ey3, cy3, -, ty3, ky3, -, Cy3, Vy3, Ay3⟩ := id S2
  obtain ⟨v3, T3, L3, X3, ⟨hv3, hL3, e3⟩, st3⟩ := own_callVB X2 hx hZ2 ho2 (hw _ (List.mem_of_getElem? (i := 92) rfl)) (hw _ (List.mem_of_getElem? (i := 93) rfl)) (hw _ (List.mem_of_getElem? (i := 95) rfl)) (hw _ (List.mem_of_getElem? (i := 94) rfl)) (by decide) (W := 0) (kc := 0) (kn := 0) (Qb := fun v U L => (((v = some (.int 1) ∧ c1 = ([42] : List Int32)) ∨ (v = some (.int 0) ∧ ¬ c1 = ([42] : List Int32))) ∧ L = [] ∧ U.heap = T2.heap)) (StrChars.Road.eqW (W := 0) hZ2 hwe (kI := 4) (hw _ (List.mem_of_getElem? (i := 9) rfl)) Ex3 Vx3 Cx3 Ax3 (StrChars.Road.codOf rfl (fun c hc => (cx3.1 c hc).2)) (own_up cx3.1) cx3.2 Ey3 Vy3 Cy3 Ay3 (StrChars.Road.codOf rfl (fun c hc => (cy3.1 c hc).2)) (own_up cy3.1) cy3.2 (SC.ext O_2.2) hz (by decide) (by decide)) rfl Ex3 (g := (mkF m 6 #[.val (.ref r0), .val (.ref r1)] [(.ref al2), (.ref r2)])) rfl (by rw [hml]; rfl) (argsL := [(.ref al2)]) (rest := []) rfl (lenOf pd12 rfl) rfl (by show 2 * 0 + _ ≤ _; exact Nat.le_of_eq rfl) (hb hby d11_6) (by decide) (by decide)
  obtain rfl := own_eq_of hv3
  have N3 := Fr.app N0 (hL3 ▸ Fr.nil n0)
  have NN3 := Fr.app (Fr.nil s.heap.size) (hL3 ▸ Fr.nil s.heap.size)
  refine own_go st3 ?_
  show own_Fin p.tables e below _ (T3.setTop (mkF m 9 #[.val (.ref r0), .val (.ref r1)] [(.int (own_eq c1 ([42] : List Int32)))]))
  by_cases hc4 : (own_eq c1 ([42] : List Int32)) = (0 : Int32)
  · refine own_go (fun _ k => XS.ifNo X3.here hx rfl (hb hby d11_9) rfl (XT.i0_ne_f hc4) k) ?_
    show own_Fin p.tables e below _ (T3.setTop (mkF m 12 #[.val (.ref r0), .val (.ref r1)] []))
    refine own_go (fun _ k => XS.aloadN X3.here hx rfl (hb hby d11_12) rfl rfl k) ?_
    show own_Fin p.tables e below _ (T3.setTop (mkF m 13 #[.val (.ref r0), .val (.ref r1)] [(.ref r0)]))
    obtain ⟨T5, X5, e5, st5⟩ := getF X3 hx hZ2 ho2 (host := "") (Or.inl (hw _ (List.mem_of_getElem? (i := 66) rfl))) Via.refl e3 Fr0_principalClass_2 (g := (mkF m 13 #[.val (.ref r0), .val (.ref r1)] [(.ref r0)])) rfl rfl (hb hby d11_13)
    refine own_go st5 ?_
    show own_Fin p.tables e below _ (T5.setTop (mkF m 16 #[.val (.ref r0), .val (.ref r1)] [(.ref r2)]))
    refine own_go (fun _ k => XS.aloadN X5.here hx rfl (hb hby d11_16) rfl rfl k) ?_
    show own_Fin p.tables e below _ (T5.setTop (mkF m 17 #[.val (.ref r0), .val (.ref r1)] [(.ref r1), (.ref r2)]))
    obtain ⟨T6, X6, e6, st6⟩ := getF X5 hx hZ2 ho2 (host := "") (Or.inl (hw _ (List.mem_of_getElem? (i := 66) rfl))) Via.refl e5 Fr1_principalClass_2 (g := (mkF m 17 #[.val (.ref r0), .val (.ref r1)] [(.ref r1), (.ref r2)])) rfl rfl (hb hby d11_17)
    refine own_go st6 ?_
    show own_Fin p.tables e below _ (T6.setTop (mkF m 20 #[.val (.ref r0), .val (.ref r1)] [(.ref r4), (.ref r2)]))
    obtain ⟨Ex7, cx7, -, tx7, kx7, -, Cx7, Vx7, Ax7⟩ := id Strr2_2
    obtain ⟨Ey7, cy7, -, ty7, ky7, -, Cy7, Vy7, Ay7⟩ := id Strr4_2
    obtain ⟨v7, T7, L7, X7, ⟨hv7, hL7, e7⟩, st7⟩ := own_callVB X6 hx hZ2 ho2 (hw _ (List.mem_of_getElem? (i := 92) rfl)) (hw _ (List.mem_of_getElem? (i := 93) rfl)) (hw _ (List.mem_of_getElem? (i := 95) rfl)) (hw _ (List.mem_of_getElem? (i := 94) rfl)) (by decide) (W := 0) (kc := 0) (kn := 0) (Qb := fun v U L => (((v = some (.int 1) ∧ c1 = c3) ∨ (v = some (.int 0) ∧ ¬ c1 = c3)) ∧ L = [] ∧ U.heap = T2.heap)) (StrChars.Road.eqW (W := 0) hZ2 hwe (kI := 4) (hw _ (List.mem_of_getElem? (i := 9) rfl)) Ex7 Vx7 Cx7 Ax7 (StrChars.Road.codOf rfl (fun c hc => (cx7.1 c hc).2)) (own_up cx7.1) cx7.2 Ey7 Vy7 Cy7 Ay7 (StrChars.Road.codOf rfl (fun c hc => (cy7.1 c hc).2)) (own_up cy7.1) cy7.2 (SC.ext O_2.2) hz (by decide) (by decide)) e6 Ex7 (g := (mkF m 20 #[.val (.ref r0), .val (.ref r1)] [(.ref r4), (.ref r2)])) rfl (by rw [hml]; rfl) (argsL := [(.ref r4)]) (rest := []) rfl (lenOf pd12 rfl) rfl (by show 2 * 0 + _ ≤ _; exact Nat.le_of_eq rfl) (hb hby d11_20) (by decide) (by decide)
    obtain rfl := own_eq_of hv7
    have N7 := Fr.app N3 (hL7 ▸ Fr.nil n0)
    have NN7 := Fr.app NN3 (hL7 ▸ Fr.nil s.heap.size)
    refine own_go st7 ?_
    show own_Fin p.tables e below _ (T7.setTop (mkF m 23 #[.val (.ref r0), .val (.ref r1)] [(.int (own_eq c1 c3))]))
    by_cases hc8 : (own_eq c1 c3) = (0 : Int32)
    · refine own_go (fun _ k => XS.ifYes X7.here hx rfl (pc0 := 23) (pc' := 56) rfl (hb hby d11_23) rfl (XT.i0_eq_t hc8) (by decide) (by decide) k) ?_
      show own_Fin p.tables e below _ (T7.setTop (mkF m 56 #[.val (.ref r0), .val (.ref r1)] []))
      refine own_go (fun _ k => XT.iconstV X7.here hx rfl (0 : Int32) (hb hby d11_56) (by decide) k) ?_
      show own_Fin p.tables e below _ (T7.setTop (mkF m 57 #[.val (.ref r0), .val (.ref r1)] [(.int (0 : Int32))]))
      refine own_retNW X7 hx hlk hS2 (by rw [e7]; exact (Nat.le_refl _)) (t := .boolean) hret (by simp) (hb hby d11_57) ?_ (by decide) (by decide)
      show _ ∧ _ ∧ Keep h0 T7.heap _ ∧ own_LO Z _ T7.heap _
      rw [e7]
      exact ⟨by rw [show f11 c1 c2 c3 c4 = (0 : Int32) from by simp only [f11, if_pos hc4, if_pos hc8]] <;> rfl, N7, K2, (own_LO.warm (LO2.mono (Nat.le_refl _)) X7.warmed)⟩
    · refine own_go (fun _ k => XS.ifNo X7.here hx rfl (hb hby d11_23) rfl (XT.i0_eq_f hc8) k) ?_
      show own_Fin p.tables e below _ (T7.setTop (mkF m 26 #[.val (.ref r0), .val (.ref r1)] []))
      refine own_go (fun _ k => XS.aloadN X7.here hx rfl (hb hby d11_26) rfl rfl k) ?_
      show own_Fin p.tables e below _ (T7.setTop (mkF m 27 #[.val (.ref r0), .val (.ref r1)] [(.ref r0)]))
      obtain ⟨T9, X9, e9, st9⟩ := getF X7 hx hZ2 ho2 (host := "") (Or.inl (hw _ (List.mem_of_getElem? (i := 68) rfl))) Via.refl e7 Fr0_name_2 (g := (mkF m 27 #[.val (.ref r0), .val (.ref r1)] [(.ref r0)])) rfl rfl (hb hby d11_27)
      refine own_go st9 ?_
      show own_Fin p.tables e below _ (T9.setTop (mkF m 30 #[.val (.ref r0), .val (.ref r1)] [(.ref r3)]))
      obtain ⟨al10, T10, _, X10, rfl, E10, hS10, hZ10, ho10, S10, LO10, Lt10, st10⟩ := own_load X9 hx hZ2 hS2 (by rw [e9]; exact (Nat.le_refl _)) ho2 (hw _ (List.mem_of_getElem? (i := 91) rfl)) hsa e9 NN7 hkeep (LO2.mono (Nat.le_refl _)) own_lm1 own_ld1 hl1 hcw own_lt1 own_lc1 (g := (mkF m 30 #[.val (.ref r0), .val (.ref r1)] [(.ref r3)])) rfl (hb hby d11_30) (n := 4) (by decide) (by decide) (by decide) (by decide)
      have O_10 := O_2.ext E10
      have Fr0_principalClass_10 := Fr0_principalClass_2.ext E10
      have Strr2_10 := Strr2_2.ext E10
      have Fr0_name_10 := Fr0_name_2.ext E10
      have Strr3_10 := Strr3_2.ext E10
      have Fr1_principalClass_10 := Fr1_principalClass_2.ext E10
      have Strr4_10 := Strr4_2.ext E10
      have Fr1_name_10 := Fr1_name_2.ext E10
      have Strr5_10 := Strr5_2.ext E10
      have Stral2_10 := S2.ext E10
      have K10 := K2.ext E10
      refine own_go st10 ?_
      show own_Fin p.tables e below _ (T10.setTop (mkF m 32 #[.val (.ref r0), .val (.ref r1)] [(.ref al10), (.ref r3)]))
      obtain ⟨Ex11, cx11, -, tx11, kx11, -, Cx11, Vx11, Ax11⟩ := id Strr3_10
      obtain ⟨Ey11, cy11, -, ty11, ky11, -, Cy11, Vy11, Ay11⟩ := id S10
      obtain ⟨v11, T11, L11, X11, ⟨hv11, hL11, e11⟩, st11⟩ := own_callVB X10 hx hZ10 ho10 (hw _ (List.mem_of_getElem? (i := 92) rfl)) (hw _ (List.mem_of_getElem? (i := 93) rfl)) (hw _ (List.mem_of_getElem? (i := 95) rfl)) (hw _ (List.mem_of_getElem? (i := 94) rfl)) (by decide) (W := 0) (kc := 0) (kn := 0) (Qb := fun v U L => (((v = some (.int 1) ∧ c2 = ([42] : List Int32)) ∨ (v = some (.int 0) ∧ ¬ c2 = ([42] : List Int32))) ∧ L = [] ∧ U.heap = T10.heap)) (StrChars.Road.eqW (W := 0) hZ10 hwe (kI := 4) (hw _ (List.mem_of_getElem? (i := 9) rfl)) Ex11 Vx11 Cx11 Ax11 (StrChars.Road.codOf rfl (fun c hc => (cx11.1 c hc).2)) (own_up cx11.1) cx11.2 Ey11 Vy11 Cy11 Ay11 (StrChars.Road.codOf rfl (fun c hc => (cy11.1 c hc).2)) (own_up cy11.1) cy11.2 (SC.ext O_10.2) hz (by decide) (by decide)) rfl Ex11 (g := (mkF m 32 #[.val (.ref r0), .val (.ref r1)] [(.ref al10), (.ref r3)])) rfl (by rw [hml]; rfl) (argsL := [(.ref al10)]) (rest := []) rfl (lenOf pd12 rfl) rfl (by show 2 * 0 + _ ≤ _; exact Nat.le_of_eq rfl) (hb hby d11_32) (by decide) (by decide)
      obtain rfl := own_eq_of hv11
      have N11 := Fr.app N7 (hL11 ▸ Fr.nil n0)
      have NN11 := Fr.app NN7 (hL11 ▸ Fr.nil s.heap.size)
      refine own_go st11 ?_
      show own_Fin p.tables e below _ (T11.setTop (mkF m 35 #[.val (.ref r0), .val (.ref r1)] [(.int (own_eq c2 ([42] : List Int32)))]))
      by_cases hc12 : (own_eq c2 ([42] : List Int32)) = (0 : Int32)
      · refine own_go (fun _ k => XS.ifNo X11.here hx rfl (hb hby d11_35) rfl (XT.i0_ne_f hc12) k) ?_
        show own_Fin p.tables e below _ (T11.setTop (mkF m 38 #[.val (.ref r0), .val (.ref r1)] []))
        refine own_go (fun _ k => XS.aloadN X11.here hx rfl (hb hby d11_38) rfl rfl k) ?_
        show own_Fin p.tables e below _ (T11.setTop (mkF m 39 #[.val (.ref r0), .val (.ref r1)] [(.ref r0)]))
        obtain ⟨T13, X13, e13, st13⟩ := getF X11 hx hZ10 ho10 (host := "") (Or.inl (hw _ (List.mem_of_getElem? (i := 68) rfl))) Via.refl e11 Fr0_name_10 (g := (mkF m 39 #[.val (.ref r0), .val (.ref r1)] [(.ref r0)])) rfl rfl (hb hby d11_39)
        refine own_go st13 ?_
        show own_Fin p.tables e below _ (T13.setTop (mkF m 42 #[.val (.ref r0), .val (.ref r1)] [(.ref r3)]))
        refine own_go (fun _ k => XS.aloadN X13.here hx rfl (hb hby d11_42) rfl rfl k) ?_
        show own_Fin p.tables e below _ (T13.setTop (mkF m 43 #[.val (.ref r0), .val (.ref r1)] [(.ref r1), (.ref r3)]))
        obtain ⟨T14, X14, e14, st14⟩ := getF X13 hx hZ10 ho10 (host := "") (Or.inl (hw _ (List.mem_of_getElem? (i := 68) rfl))) Via.refl e13 Fr1_name_10 (g := (mkF m 43 #[.val (.ref r0), .val (.ref r1)] [(.ref r1), (.ref r3)])) rfl rfl (hb hby d11_43)
        refine own_go st14 ?_
        show own_Fin p.tables e below _ (T14.setTop (mkF m 46 #[.val (.ref r0), .val (.ref r1)] [(.ref r5), (.ref r3)]))
        obtain ⟨Ex15, cx15, -, tx15, kx15, -, Cx15, Vx15, Ax15⟩ := id Strr3_10
        obtain ⟨Ey15, cy15, -, ty15, ky15, -, Cy15, Vy15, Ay15⟩ := id Strr5_10
        obtain ⟨v15, T15, L15, X15, ⟨hv15, hL15, e15⟩, st15⟩ := own_callVB X14 hx hZ10 ho10 (hw _ (List.mem_of_getElem? (i := 92) rfl)) (hw _ (List.mem_of_getElem? (i := 93) rfl)) (hw _ (List.mem_of_getElem? (i := 95) rfl)) (hw _ (List.mem_of_getElem? (i := 94) rfl)) (by decide) (W := 0) (kc := 0) (kn := 0) (Qb := fun v U L => (((v = some (.int 1) ∧ c2 = c4) ∨ (v = some (.int 0) ∧ ¬ c2 = c4)) ∧ L = [] ∧ U.heap = T10.heap)) (StrChars.Road.eqW (W := 0) hZ10 hwe (kI := 4) (hw _ (List.mem_of_getElem? (i := 9) rfl)) Ex15 Vx15 Cx15 Ax15 (StrChars.Road.codOf rfl (fun c hc => (cx15.1 c hc).2)) (own_up cx15.1) cx15.2 Ey15 Vy15 Cy15 Ay15 (StrChars.Road.codOf rfl (fun c hc => (cy15.1 c hc).2)) (own_up cy15.1) cy15.2 (SC.ext O_10.2) hz (by decide) (by decide)) e14 Ex15 (g := (mkF m 46 #[.val (.ref r0), .val (.ref r1)] [(.ref r5), (.ref r3)])) rfl (by rw [hml]; rfl) (argsL := [(.ref r5)]) (rest := []) rfl (lenOf pd12 rfl) rfl (by show 2 * 0 + _ ≤ _; exact Nat.le_of_eq rfl) (hb hby d11_46) (by decide) (by decide)
        obtain rfl := own_eq_of hv15
        have N15 := Fr.app N11 (hL15 ▸ Fr.nil n0)
        have NN15 := Fr.app NN11 (hL15 ▸ Fr.nil s.heap.size)
        refine own_go st15 ?_
        show own_Fin p.tables e below _ (T15.setTop (mkF m 49 #[.val (.ref r0), .val (.ref r1)] [(.int (own_eq c2 c4))]))
        by_cases hc16 : (own_eq c2 c4) = (0 : Int32)
        · refine own_go (fun _ k => XS.ifYes X15.here hx rfl (pc0 := 49) (pc' := 56) rfl (hb hby d11_49) rfl (XT.i0_eq_t hc16) (by decide) (by decide) k) ?_
          show own_Fin p.tables e below _ (T15.setTop (mkF m 56 #[.val (.ref r0), .val (.ref r1)] []))
          refine own_go (fun _ k => XT.iconstV X15.here hx rfl (0 : Int32) (hb hby d11_56) (by decide) k) ?_
          show own_Fin p.tables e below _ (T15.setTop (mkF m 57 #[.val (.ref r0), .val (.ref r1)] [(.int (0 : Int32))]))
          refine own_retNW X15 hx hlk hS10 (by rw [e15]; exact (Nat.le_refl _)) (t := .boolean) hret (by simp) (hb hby d11_57) ?_ (by decide) (by decide)
          show _ ∧ _ ∧ Keep h0 T15.heap _ ∧ own_LO Z _ T15.heap _
          rw [e15]
          exact ⟨by rw [show f11 c1 c2 c3 c4 = (0 : Int32) from by simp only [f11, if_pos hc4, if_neg hc8, if_pos hc12, if_pos hc16]] <;> rfl, N15, K10, (own_LO.warm (LO10.mono (Nat.le_refl _)) X15.warmed)⟩
        · refine own_go (fun _ k => XS.ifNo X15.here hx rfl (hb hby d11_49) rfl (XT.i0_eq_f hc16) k) ?_
          show own_Fin p.tables e below _ (T15.setTop (mkF m 52 #[.val (.ref r0), .val (.ref r1)] []))
          refine own_go (fun _ k => XT.iconstV X15.here hx rfl (1 : Int32) (hb hby d11_52) (by decide) k) ?_
          show own_Fin p.tables e below _ (T15.setTop (mkF m 53 #[.val (.ref r0), .val (.ref r1)] [(.int (1 : Int32))]))
          refine own_go (fun _ k => XS.goto X15.here hx rfl (pc0 := 53) (pc' := 57) rfl (hb hby d11_53) (by decide) (by decide) k) ?_
          show own_Fin p.tables e below _ (T15.setTop (mkF m 57 #[.val (.ref r0), .val (.ref r1)] [(.int (1 : Int32))]))
          refine own_retNW X15 hx hlk hS10 (by rw [e15]; exact (Nat.le_refl _)) (t := .boolean) hret (by simp) (hb hby d11_57) ?_ (by decide) (by decide)
          show _ ∧ _ ∧ Keep h0 T15.heap _ ∧ own_LO Z _ T15.heap _
          rw [e15]
          exact ⟨by rw [show f11 c1 c2 c3 c4 = (1 : Int32) from by simp only [f11, if_pos hc4, if_neg hc8, if_pos hc12, if_neg hc16]] <;> rfl, N15, K10, (own_LO.warm (LO10.mono (Nat.le_refl _)) X15.warmed)⟩
      · refine own_go (fun _ k => XS.ifYes X11.here hx rfl (pc0 := 35) (pc' := 52) rfl (hb hby d11_35) rfl (XT.i0_ne_t hc12) (by decide) (by decide) k) ?_
        show own_Fin p.tables e below _ (T11.setTop (mkF m 52 #[.val (.ref r0), .val (.ref r1)] []))
        refine own_go (fun _ k => XT.iconstV X11.here hx rfl (1 : Int32) (hb hby d11_52) (by decide) k) ?_
        show own_Fin p.tables e below _ (T11.setTop (mkF m 53 #[.val (.ref r0), .val (.ref r1)] [(.int (1 : Int32))]))
        refine own_go (fun _ k => XS.goto X11.here hx rfl (pc0 := 53) (pc' := 57) rfl (hb hby d11_53) (by decide) (by decide) k) ?_
        show own_Fin p.tables e below _ (T11.setTop (mkF m 57 #[.val (.ref r0), .val (.ref r1)] [(.int (1 : Int32))]))
        refine own_retNW X11 hx hlk hS10 (by rw [e11]; exact (Nat.le_refl _)) (t := .boolean) hret (by simp) (hb hby d11_57) ?_ (by decide) (by decide)
        show _ ∧ _ ∧ Keep h0 T11.heap _ ∧ own_LO Z _ T11.heap _
        rw [e11]
        exact ⟨by rw [show f11 c1 c2 c3 c4 = (1 : Int32) from by simp only [f11, if_pos hc4, if_neg hc8, if_neg hc12]] <;> rfl, N11, K10, (own_LO.warm (LO10.mono (Nat.le_refl _)) X11.warmed)⟩
  · refine own_go (fun _ k => XS.ifYes X3.here hx rfl (pc0 := 9) (pc' := 26) rfl (hb hby d11_9) rfl (XT.i0_ne_t hc4) (by decide) (by decide) k) ?_
    show own_Fin p.tables e below _ (T3.setTop (mkF m 26 #[.val (.ref r0), .val (.ref r1)] []))
    refine own_go (fun _ k => XS.aloadN X3.here hx rfl (hb hby d11_26) rfl rfl k) ?_
    show own_Fin p.tables e below _ (T3.setTop (mkF m 27 #[.val (.ref r0), .val (.ref r1)] [(.ref r0)]))
    obtain ⟨T17, X17, e17, st17⟩ := getF X3 hx hZ2 ho2 (host := "") (Or.inl (hw _ (List.mem_of_getElem? (i := 68) rfl))) Via.refl e3 Fr0_name_2 (g := (mkF m 27 #[.val (.ref r0), .val (.ref r1)] [(.ref r0)])) rfl rfl (hb hby d11_27)
    refine own_go st17 ?_
    show own_Fin p.tables e below _ (T17.setTop (mkF m 30 #[.val (.ref r0), .val (.ref r1)] [(.ref r3)]))
    obtain ⟨al18, T18, _, X18, rfl, E18, hS18, hZ18, ho18, S18, LO18, Lt18, st18⟩ := own_load X17 hx hZ2 hS2 (by rw [e17]; exact (Nat.le_refl _)) ho2 (hw _ (List.mem_of_getElem? (i := 91) rfl)) hsa e17 NN3 hkeep (LO2.mono (Nat.le_refl _)) own_lm1 own_ld1 hl1 hcw own_lt1 own_lc1 (g := (mkF m 30 #[.val (.ref r0), .val (.ref r1)] [(.ref r3)])) rfl (hb hby d11_30) (n := 4) (by decide) (by decide) (by decide) (by decide)
    have O_18 := O_2.ext E18
    have Fr0_principalClass_18 := Fr0_principalClass_2.ext E18
    have Strr2_18 := Strr2_2.ext E18
    have Fr0_name_18 := Fr0_name_2.ext E18
    have Strr3_18 := Strr3_2.ext E18
    have Fr1_principalClass_18 := Fr1_principalClass_2.ext E18
    have Strr4_18 := Strr4_2.ext E18
    have Fr1_name_18 := Fr1_name_2.ext E18
    have Strr5_18 := Strr5_2.ext E18
    have Stral2_18 := S2.ext E18
    have K18 := K2.ext E18
    refine own_go st18 ?_
    show own_Fin p.tables e below _ (T18.setTop (mkF m 32 #[.val (.ref r0), .val (.ref r1)] [(.ref al18), (.ref r3)]))
    obtain ⟨Ex19, cx19, -, tx19, kx19, -, Cx19, Vx19, Ax19⟩ := id Strr3_18
    obtain ⟨Ey19, cy19, -, ty19, ky19, -, Cy19, Vy19, Ay19⟩ := id S18
    obtain ⟨v19, T19, L19, X19, ⟨hv19, hL19, e19⟩, st19⟩ := own_callVB X18 hx hZ18 ho18 (hw _ (List.mem_of_getElem? (i := 92) rfl)) (hw _ (List.mem_of_getElem? (i := 93) rfl)) (hw _ (List.mem_of_getElem? (i := 95) rfl)) (hw _ (List.mem_of_getElem? (i := 94) rfl)) (by decide) (W := 0) (kc := 0) (kn := 0) (Qb := fun v U L => (((v = some (.int 1) ∧ c2 = ([42] : List Int32)) ∨ (v = some (.int 0) ∧ ¬ c2 = ([42] : List Int32))) ∧ L = [] ∧ U.heap = T18.heap)) (StrChars.Road.eqW (W := 0) hZ18 hwe (kI := 4) (hw _ (List.mem_of_getElem? (i := 9) rfl)) Ex19 Vx19 Cx19 Ax19 (StrChars.Road.codOf rfl (fun c hc => (cx19.1 c hc).2)) (own_up cx19.1) cx19.2 Ey19 Vy19 Cy19 Ay19 (StrChars.Road.codOf rfl (fun c hc => (cy19.1 c hc).2)) (own_up cy19.1) cy19.2 (SC.ext O_18.2) hz (by decide) (by decide)) rfl Ex19 (g := (mkF m 32 #[.val (.ref r0), .val (.ref r1)] [(.ref al18), (.ref r3)])) rfl (by rw [hml]; rfl) (argsL := [(.ref al18)]) (rest := []) rfl (lenOf pd12 rfl) rfl (by show 2 * 0 + _ ≤ _; exact Nat.le_of_eq rfl) (hb hby d11_32) (by decide) (by decide)
    obtain rfl := own_eq_of hv19
    have N19 := Fr.app N3 (hL19 ▸ Fr.nil n0)
    have NN19 := Fr.app NN3 (hL19 ▸ Fr.nil s.heap.size)
    refine own_go st19 ?_
    show own_Fin p.tables e below _ (T19.setTop (mkF m 35 #[.val (.ref r0), .val (.ref r1)] [(.int (own_eq c2 ([42] : List Int32)))]))
    by_cases hc20 : (own_eq c2 ([42] : List Int32)) = (0 : Int32)
    · refine own_go (fun _ k => XS.ifNo X19.here hx rfl (hb hby d11_35) rfl (XT.i0_ne_f hc20) k) ?_
      show own_Fin p.tables e below _ (T19.setTop (mkF m 38 #[.val (.ref r0), .val (.ref r1)] []))
      refine own_go (fun _ k => XS.aloadN X19.here hx rfl (hb hby d11_38) rfl rfl k) ?_
      show own_Fin p.tables e below _ (T19.setTop (mkF m 39 #[.val (.ref r0), .val (.ref r1)] [(.ref r0)]))
      obtain ⟨T21, X21, e21, st21⟩ := getF X19 hx hZ18 ho18 (host := "") (Or.inl (hw _ (List.mem_of_getElem? (i := 68) rfl))) Via.refl e19 Fr0_name_18 (g := (mkF m 39 #[.val (.ref r0), .val (.ref r1)] [(.ref r0)])) rfl rfl (hb hby d11_39)
      refine own_go st21 ?_
      show own_Fin p.tables e below _ (T21.setTop (mkF m 42 #[.val (.ref r0), .val (.ref r1)] [(.ref r3)]))
      refine own_go (fun _ k => XS.aloadN X21.here hx rfl (hb hby d11_42) rfl rfl k) ?_
      show own_Fin p.tables e below _ (T21.setTop (mkF m 43 #[.val (.ref r0), .val (.ref r1)] [(.ref r1), (.ref r3)]))
      obtain ⟨T22, X22, e22, st22⟩ := getF X21 hx hZ18 ho18 (host := "") (Or.inl (hw _ (List.mem_of_getElem? (i := 68) rfl))) Via.refl e21 Fr1_name_18 (g := (mkF m 43 #[.val (.ref r0), .val (.ref r1)] [(.ref r1), (.ref r3)])) rfl rfl (hb hby d11_43)
      refine own_go st22 ?_
      show own_Fin p.tables e below _ (T22.setTop (mkF m 46 #[.val (.ref r0), .val (.ref r1)] [(.ref r5), (.ref r3)]))
      obtain ⟨Ex23, cx23, -, tx23, kx23, -, Cx23, Vx23, Ax23⟩ := id Strr3_18
      obtain ⟨Ey23, cy23, -, ty23, ky23, -, Cy23, Vy23, Ay23⟩ := id Strr5_18
      obtain ⟨v23, T23, L23, X23, ⟨hv23, hL23, e23⟩, st23⟩ := own_callVB X22 hx hZ18 ho18 (hw _ (List.mem_of_getElem? (i := 92) rfl)) (hw _ (List.mem_of_getElem? (i := 93) rfl)) (hw _ (List.mem_of_getElem? (i := 95) rfl)) (hw _ (List.mem_of_getElem? (i := 94) rfl)) (by decide) (W := 0) (kc := 0) (kn := 0) (Qb := fun v U L => (((v = some (.int 1) ∧ c2 = c4) ∨ (v = some (.int 0) ∧ ¬ c2 = c4)) ∧ L = [] ∧ U.heap = T18.heap)) (StrChars.Road.eqW (W := 0) hZ18 hwe (kI := 4) (hw _ (List.mem_of_getElem? (i := 9) rfl)) Ex23 Vx23 Cx23 Ax23 (StrChars.Road.codOf rfl (fun c hc => (cx23.1 c hc).2)) (own_up cx23.1) cx23.2 Ey23 Vy23 Cy23 Ay23 (StrChars.Road.codOf rfl (fun c hc => (cy23.1 c hc).2)) (own_up cy23.1) cy23.2 (SC.ext O_18.2) hz (by decide) (by decide)) e22 Ex23 (g := (mkF m 46 #[.val (.ref r0), .val (.ref r1)] [(.ref r5), (.ref r3)])) rfl (by rw [hml]; rfl) (argsL := [(.ref r5)]) (rest := []) rfl (lenOf pd12 rfl) rfl (by show 2 * 0 + _ ≤ _; exact Nat.le_of_eq rfl) (hb hby d11_46) (by decide) (by decide)
      obtain rfl := own_eq_of hv23
      have N23 := Fr.app N19 (hL23 ▸ Fr.nil n0)
      have NN23 := Fr.app NN19 (hL23 ▸ Fr.nil s.heap.size)
      refine own_go st23 ?_
      show own_Fin p.tables e below _ (T23.setTop (mkF m 49 #[.val (.ref r0), .val (.ref r1)] [(.int (own_eq c2 c4))]))
      by_cases hc24 : (own_eq c2 c4) = (0 : Int32)
      · refine own_go (fun _ k => XS.ifYes X23.here hx rfl (pc0 := 49) (pc' := 56) rfl (hb hby d11_49) rfl (XT.i0_eq_t hc24) (by decide) (by decide) k) ?_
        show own_Fin p.tables e below _ (T23.setTop (mkF m 56 #[.val (.ref r0), .val (.ref r1)] []))
        refine own_go (fun _ k => XT.iconstV X23.here hx rfl (0 : Int32) (hb hby d11_56) (by decide) k) ?_
        show own_Fin p.tables e below _ (T23.setTop (mkF m 57 #[.val (.ref r0), .val (.ref r1)] [(.int (0 : Int32))]))
        refine own_retNW X23 hx hlk hS18 (by rw [e23]; exact (Nat.le_refl _)) (t := .boolean) hret (by simp) (hb hby d11_57) ?_ (by decide) (by decide)
        show _ ∧ _ ∧ Keep h0 T23.heap _ ∧ own_LO Z _ T23.heap _
        rw [e23]
        exact ⟨by rw [show f11 c1 c2 c3 c4 = (0 : Int32) from by simp only [f11, if_neg hc4, if_pos hc20, if_pos hc24]] <;> rfl, N23, K18, (own_LO.warm (LO18.mono (Nat.le_refl _)) X23.warmed)⟩
      · refine own_go (fun _ k => XS.ifNo X23.here hx rfl (hb hby d11_49) rfl (XT.i0_eq_f hc24) k) ?_
        show own_Fin p.tables e below _ (T23.setTop (mkF m 52 #[.val (.ref r0), .val (.ref r1)] []))
        refine own_go (fun _ k => XT.iconstV X23.here hx rfl (1 : Int32) (hb hby d11_52) (by decide) k) ?_
        show own_Fin p.tables e below _ (T23.setTop (mkF m 53 #[.val (.ref r0), .val (.ref r1)] [(.int (1 : Int32))]))
        refine own_go (fun _ k => XS.goto X23.here hx rfl (pc0 := 53) (pc' := 57) rfl (hb hby d11_53) (by decide) (by decide) k) ?_
        show own_Fin p.tables e below _ (T23.setTop (mkF m 57 #[.val (.ref r0), .val (.ref r1)] [(.int (1 : Int32))]))
        refine own_retNW X23 hx hlk hS18 (by rw [e23]; exact (Nat.le_refl _)) (t := .boolean) hret (by simp) (hb hby d11_57) ?_ (by decide) (by decide)
        show _ ∧ _ ∧ Keep h0 T23.heap _ ∧ own_LO Z _ T23.heap _
        rw [e23]
        exact ⟨by rw [show f11 c1 c2 c3 c4 = (1 : Int32) from by simp only [f11, if_neg hc4, if_pos hc20, if_neg hc24]] <;> rfl, N23, K18, (own_LO.warm (LO18.mono (Nat.le_refl _)) X23.warmed)⟩
    · refine own_go (fun _ k => XS.ifYes X19.here hx rfl (pc0 := 35) (pc' := 52) rfl (hb hby d11_35) rfl (XT.i0_ne_t hc20) (by decide) (by decide) k) ?_
      show own_Fin p.tables e below _ (T19.setTop (mkF m 52 #[.val (.ref r0), .val (.ref r1)] []))
      refine own_go (fun _ k => XT.iconstV X19.here hx rfl (1 : Int32) (hb hby d11_52) (by decide) k) ?_
      show own_Fin p.tables e below _ (T19.setTop (mkF m 53 #[.val (.ref r0), .val (.ref r1)] [(.int (1 : Int32))]))
      refine own_go (fun _ k => XS.goto X19.here hx rfl (pc0 := 53) (pc' := 57) rfl (hb hby d11_53) (by decide) (by decide) k) ?_
      show own_Fin p.tables e below _ (T19.setTop (mkF m 57 #[.val (.ref r0), .val (.ref r1)] [(.int (1 : Int32))]))
      refine own_retNW X19 hx hlk hS18 (by rw [e19]; exact (Nat.le_refl _)) (t := .boolean) hret (by simp) (hb hby d11_57) ?_ (by decide) (by decide)
      show _ ∧ _ ∧ Keep h0 T19.heap _ ∧ own_LO Z _ T19.heap _
      rw [e19]
      exact ⟨by rw [show f11 c1 c2 c3 c4 = (1 : Int32) from by simp only [f11, if_neg hc4, if_neg hc20]] <;> rfl, N19, K18, (own_LO.warm (LO18.mono (Nat.le_refl _)) X19.warmed)⟩
theorem pd14 : parseMethodDescriptor "(IIIII)Z" = some ⟨[.int, .int, .int, .int, .int], some .boolean⟩ := by decide +kernel
theorem ef0 (m : MethodId) (i1 : Int32) (i2 : Int32) (i3 : Int32) (i4 : Int32) (i5 : Int32) : entryFrame m #[(.int i1), (.int i2), (.int i3), (.int i4), (.int i5)] maxLocals = mkF m 0 #[.val (.int i1), .val (.int i2), .val (.int i3), .val (.int i4), .val (.int i5), .unset, .unset, .unset, .unset, .unset, .unset, .unset] [] := by first | (simp [entryFrame, mkF, argsToLocals, Value.category, maxLocals]; done) | rfl
def own_s1 (i1 : Int32) (i2 : Int32) (i3 : Int32) (i4 : Int32) (i5 : Int32) : List Int32 := (if (i5 &&& (4 : Int32)) = (0 : Int32) then (own_cs i1) else ([(42 : Int32)] : List Int32))
def own_s2 (i1 : Int32) (i2 : Int32) (i3 : Int32) (i4 : Int32) (i5 : Int32) : List Int32 := (if (i5 &&& (8 : Int32)) = (0 : Int32) then (own_cs i2) else ([(42 : Int32)] : List Int32))
def own_s3 (i1 : Int32) (i2 : Int32) (i3 : Int32) (i4 : Int32) (i5 : Int32) : List Int32 := (if (i5 &&& (16 : Int32)) = (0 : Int32) then (if (i5 &&& (1 : Int32)) = (0 : Int32) then (own_cs i3) else (own_cs i1)) else ([(42 : Int32)] : List Int32))
def own_s4 (i1 : Int32) (i2 : Int32) (i3 : Int32) (i4 : Int32) (i5 : Int32) : List Int32 := (if (i5 &&& (32 : Int32)) = (0 : Int32) then (if (i5 &&& (2 : Int32)) = (0 : Int32) then (own_cs i4) else (own_cs i2)) else ([(42 : Int32)] : List Int32))
def f0 (i1 : Int32) (i2 : Int32) (i3 : Int32) (i4 : Int32) (i5 : Int32) : Int32 := (if (f6 (own_s1 i1 i2 i3 i4 i5)) = (0 : Int32) then (if (f7 (own_s1 i1 i2 i3 i4 i5) (own_s3 i1 i2 i3 i4 i5)) = (0 : Int32) then (if (f11 (own_s1 i1 i2 i3 i4 i5) (own_s2 i1 i2 i3 i4 i5) (own_s3 i1 i2 i3 i4 i5) (own_s4 i1 i2 i3 i4 i5)) = (0 : Int32) then (1 : Int32) else (0 : Int32)) else (if (f6 (own_s2 i1 i2 i3 i4 i5)) = (0 : Int32) then (if (f7 (own_s2 i1 i2 i3 i4 i5) (own_s4 i1 i2 i3 i4 i5)) = (0 : Int32) then (if (f11 (own_s1 i1 i2 i3 i4 i5) (own_s2 i1 i2 i3 i4 i5) (own_s3 i1 i2 i3 i4 i5) (own_s4 i1 i2 i3 i4 i5)) = (0 : Int32) then (1 : Int32) else (0 : Int32)) else (if (f11 (own_s1 i1 i2 i3 i4 i5) (own_s2 i1 i2 i3 i4 i5) (own_s3 i1 i2 i3 i4 i5) (own_s4 i1 i2 i3 i4 i5)) = (1 : Int32) then (1 : Int32) else (0 : Int32))) else (if (f11 (own_s1 i1 i2 i3 i4 i5) (own_s2 i1 i2 i3 i4 i5) (own_s3 i1 i2 i3 i4 i5) (own_s4 i1 i2 i3 i4 i5)) = (1 : Int32) then (1 : Int32) else (0 : Int32)))) else (if (f6 (own_s2 i1 i2 i3 i4 i5)) = (0 : Int32) then (if (f7 (own_s2 i1 i2 i3 i4 i5) (own_s4 i1 i2 i3 i4 i5)) = (0 : Int32) then (if (f11 (own_s1 i1 i2 i3 i4 i5) (own_s2 i1 i2 i3 i4 i5) (own_s3 i1 i2 i3 i4 i5) (own_s4 i1 i2 i3 i4 i5)) = (0 : Int32) then (1 : Int32) else (0 : Int32)) else (if (f11 (own_s1 i1 i2 i3 i4 i5) (own_s2 i1 i2 i3 i4 i5) (own_s3 i1 i2 i3 i4 i5) (own_s4 i1 i2 i3 i4 i5)) = (1 : Int32) then (1 : Int32) else (0 : Int32))) else (if (f11 (own_s1 i1 i2 i3 i4 i5) (own_s2 i1 i2 i3 i4 i5) (own_s3 i1 i2 i3 i4 i5) (own_s4 i1 i2 i3 i4 i5)) = (1 : Int32) then (1 : Int32) else (0 : Int32))))
theorem own_f6 (c : List Int32) (h : c.length ≤ 3) : f6 c = own_eq c [42] := by
  match c, h with
  | [], _ => rfl
  | [a], _ => by_cases q : a = 42 <;> simp [f6, own_eq, q]
  | [a, b], _ => simp +decide [f6, own_eq]
  | [a, b, d], _ => simp +decide [f6, own_eq]
  | a :: b :: d :: e :: r, h => simp only [List.length] at h; omega
theorem own_f7 (c d : List Int32) (h : c.length ≤ 3) (k : d.length ≤ 3) : f7 c d = own_eq c d := by
  match c, h, d, k with
  | [], _, [], _ => rfl
  | [], _, [x], _ => simp +decide [f7, own_eq]
  | [], _, [x, y], _ => simp +decide [f7, own_eq]
  | [], _, [x, y, z], _ => simp +decide [f7, own_eq]
  | [a], _, [], _ => simp +decide [f7, own_eq]
  | [a], _, [x], _ => by_cases q : a = x <;> simp +decide [f7, own_eq, q]
  | [a], _, [x, y], _ => simp +decide [f7, own_eq]
  | [a], _, [x, y, z], _ => simp +decide [f7, own_eq]
  | [a, b], _, [], _ => simp +decide [f7, own_eq]
  | [a, b], _, [x], _ => simp +decide [f7, own_eq]
  | [a, b], _, [x, y], _ => by_cases q : a = x <;> by_cases q2 : b = y <;> simp +decide [f7, own_eq, q, q2]
  | [a, b], _, [x, y, z], _ => simp +decide [f7, own_eq]
  | [a, b, d], _, [], _ => simp +decide [f7, own_eq]
  | [a, b, d], _, [x], _ => simp +decide [f7, own_eq]
  | [a, b, d], _, [x, y], _ => simp +decide [f7, own_eq]
  | [a, b, d], _, [x, y, z], _ => by_cases q : a = x <;> by_cases q2 : b = y <;> by_cases q3 : d = z <;> simp +decide [f7, own_eq, q, q2, q3]
  | a :: b :: d :: e :: r, h, _, _ => simp only [List.length] at h; omega
  | _, _, a :: b :: d :: e :: r, k => simp only [List.length] at k; omega
theorem own_cs3 (i : Int32) : (own_cs i).length ≤ 3 := by
  unfold own_cs
  repeat' split
  all_goals simp only [List.length] <;> omega
theorem own_13 (a : Int32) : ([a] : List Int32).length ≤ 3 := by simp only [List.length]; omega
theorem own_s13 (i1 i2 i3 i4 i5 : Int32) : (own_s1 i1 i2 i3 i4 i5).length ≤ 3 := by
  unfold own_s1
  repeat' split
  all_goals first | exact own_cs3 _ | exact own_13 _
theorem own_s23 (i1 i2 i3 i4 i5 : Int32) : (own_s2 i1 i2 i3 i4 i5).length ≤ 3 := by
  unfold own_s2
  repeat' split
  all_goals first | exact own_cs3 _ | exact own_13 _
theorem own_s33 (i1 i2 i3 i4 i5 : Int32) : (own_s3 i1 i2 i3 i4 i5).length ≤ 3 := by
  unfold own_s3
  repeat' split
  all_goals first | exact own_cs3 _ | exact own_13 _
theorem own_s43 (i1 i2 i3 i4 i5 : Int32) : (own_s4 i1 i2 i3 i4 i5).length ≤ 3 := by
  unfold own_s4
  repeat' split
  all_goals first | exact own_cs3 _ | exact own_13 _
theorem own_law (i1 i2 i3 i4 i5 : Int32) : f0 i1 i2 i3 i4 i5 = 1 := by
  unfold f0 f11
  rw [own_f6 _ (own_s13 i1 i2 i3 i4 i5), own_f6 _ (own_s23 i1 i2 i3 i4 i5), own_f7 _ _ (own_s13 i1 i2 i3 i4 i5) (own_s33 i1 i2 i3 i4 i5), own_f7 _ _ (own_s23 i1 i2 i3 i4 i5) (own_s43 i1 i2 i3 i4 i5)]
  generalize own_eq (own_s1 i1 i2 i3 i4 i5) [42] = a
  generalize own_eq (own_s2 i1 i2 i3 i4 i5) [42] = b
  generalize own_eq (own_s1 i1 i2 i3 i4 i5) (own_s3 i1 i2 i3 i4 i5) = c
  generalize own_eq (own_s2 i1 i2 i3 i4 i5) (own_s4 i1 i2 i3 i4 i5) = d
  by_cases ha : a = 0 <;> by_cases hb : b = 0 <;> by_cases hc : c = 0 <;> by_cases hd : d = 0 <;> simp +decide [ha, hb, hc, hd]
set_option maxRecDepth 65536 in
set_option maxHeartbeats 40000000 in
theorem rm0 (l : Launch) (Z : State) (a0 : Array Value) (hw : ∀ d ∈ tables_1, d.before a0 Z = true) (ws : List Jvm.Cond) (i1 : Int32) (i2 : Int32) (i3 : Int32) (i4 : Int32) (i5 : Int32)  (h0 : Heap) (n0 : Nat) (Z0 : n0 ≤ h0.size) (ic : Int32) (SC : Sta Z Z.heap "java/lang/String" "COMPACT_STRINGS" "Z" (.int ic)) (hz : ¬ ic = 0) (O0 : Old Z n0 h0) (hl0 : Jvm.Lit.constHeld Z "com/example/grantline/grantline/eval/OwnerCoversPinLaw" 40) (hl1 : Jvm.Lit.constHeld Z "com/example/grantline/grantline/eval/CredentialTarget$Owner" 18) (hcw : Jvm.Lit.compactW.before a0 Z = true) (fm : Value) (SF : Sta Z Z.heap "jdk/internal/util/Preconditions" "SIOOBE_FORMATTER" "Ljava/util/function/BiFunction;" fm) (rf : fm.isRef = true) :
    own_MetW l x code maxLocals ret room_1 ws #[(.int i1), (.int i2), (.int i3), (.int i4), (.int i5)] Z h0 (fun vm => own_LO Z vm h0 h0.size) 40 2240 (fun v h vm L => v = some (.int (f0 i1 i2 i3 i4 i5)) ∧ Fr n0 L) := by
  refine own_metW (plainFor_of_name pn0) ?_
  intro p e s m below meth c s₁ hx hby hml hown hnm hret hlk hZ hh0 e0 LO0 hS0 X0
  have hml : c.maxLocals = 12 := hml
  have N0 := Fr.nil n0
  have K0 := Keep.refl h0 []
  have hws : ∀ d ∈ StrChars.Road.words, d.before a0 Z = true := fun d hd => hw d ((by decide +kernel : ∀ d ∈ StrChars.Road.words, d ∈ tables_1) d hd)
  have hwe : ∀ d ∈ StrChars.Road.wordsEq, d.before a0 Z = true := fun d hd => hw d ((by decide +kernel : ∀ d ∈ StrChars.Road.wordsEq, d ∈ tables_1) d hd)
  refine own_go (fun _ k => castTop (ef0 m i1 i2 i3 i4 i5) k) ?_
  show own_Fin p.tables e below _ (s₁.setTop (mkF m 0 #[.val (.int i1), .val (.int i2), .val (.int i3), .val (.int i4), .val (.int i5), .unset, .unset, .unset, .unset, .unset, .unset, .unset] []))
  obtain ⟨_, ⟨a1, T1, L1, X1, hZ1, hS1, ho1, N1, KK1, S1, LO1, rfl⟩, st1⟩ : own_Go p.tables e below (fun t => ∃ (a' : Addr) (T' : State) (L' : List Loc), Stand p l e room_1 (s.setVm T'.vm) m #[(.int i1), (.int i2), (.int i3), (.int i4), (.int i5)] below meth c T' L' 3 10 ∧ Z.Warmed39 (s.setVm T'.vm).vm ∧ s.Since T'.vm T'.heap.size ∧ (s.setVm T'.vm).vm.findClass x.cls = some m.cls ∧ Fr n0 L' ∧ Keep h0 T'.heap [] ∧ own_Str Z T'.heap a' (own_s1 i1 i2 i3 i4 i5) T'.heap.size ∧ own_LO Z T'.vm T'.heap T'.heap.size ∧ t = T'.setTop (mkF m 19 #[.val (.int i1), .val (.int i2), .val (.int i3), .val (.int i4), .val (.int i5), .unset, .unset, .unset, .unset, .unset, .unset, .unset] [(.ref a')])) (s₁.setTop (mkF m 0 #[.val (.int i1), .val (.int i2), .val (.int i3), .val (.int i4), .val (.int i5), .unset, .unset, .unset, .unset, .unset, .unset, .unset] [])) := by
    refine own_on (fun _ k => XS.iload X0.here hx rfl (hb hby at_0) rfl k) ?_
    show own_Go p.tables e below _ (s₁.setTop (mkF m 2 #[.val (.int i1), .val (.int i2), .val (.int i3), .val (.int i4), .val (.int i5), .unset, .unset, .unset, .unset, .unset, .unset, .unset] [(.int i5)]))
    refine own_on (fun _ k => XT.iconstV X0.here hx rfl (4 : Int32) (hb hby at_2) (by decide) k) ?_
    show own_Go p.tables e below _ (s₁.setTop (mkF m 3 #[.val (.int i1), .val (.int i2), .val (.int i3), .val (.int i4), .val (.int i5), .unset, .unset, .unset, .unset, .unset, .unset, .unset] [(.int (4 : Int32)), (.int i5)]))
    refine own_on (fun _ k => XS.iand X0.here hx rfl (hb hby at_3) rfl k) ?_
    show own_Go p.tables e below _ (s₁.setTop (mkF m 4 #[.val (.int i1), .val (.int i2), .val (.int i3), .val (.int i4), .val (.int i5), .unset, .unset, .unset, .unset, .unset, .unset, .unset] [(.int (i5 &&& (4 : Int32)))]))
    by_cases hc2 : (i5 &&& (4 : Int32)) = (0 : Int32)
    · refine own_on (fun _ k => XS.ifYes X0.here hx rfl (pc0 := 4) (pc' := 15) rfl (hb hby at_4) rfl (XT.i0_eq_t hc2) (by decide) (by decide) k) ?_
      show own_Go p.tables e below _ (s₁.setTop (mkF m 15 #[.val (.int i1), .val (.int i2), .val (.int i3), .val (.int i4), .val (.int i5), .unset, .unset, .unset, .unset, .unset, .unset, .unset] []))
      refine own_on (fun _ k => XS.iloadN X0.here hx rfl (hb hby at_15) rfl k) ?_
      show own_Go p.tables e below _ (s₁.setTop (mkF m 16 #[.val (.int i1), .val (.int i2), .val (.int i3), .val (.int i4), .val (.int i5), .unset, .unset, .unset, .unset, .unset, .unset, .unset] [(.int i1)]))
      obtain ⟨_, T3, L3, X3, hZ3, hS3, ho3, ⟨a3, rfl, M3, KK3, S3, LO3⟩, st3⟩ := own_callSW X0 hx hZ hS0 (Nat.zero_le _) hown (hw _ (List.mem_of_getElem? (i := 0) rfl)) (hw _ (List.mem_of_getElem? (i := 1) rfl)) (hw _ (List.mem_of_getElem? (i := 2) rfl)) (hw _ (List.mem_of_getElem? (i := 3) rfl)) (by decide) (W := 0) (rm8 l Z a0 hw [] i1 h0 n0 (Nat.le_trans Z0 K0.1) ic SC hz O0 hl0 hl1 hcw) (fun vm hv => own_LO.warm (LO0.mono K0.1) hv) (by decide) (by decide) e0 (g := (mkF m 16 #[.val (.int i1), .val (.int i2), .val (.int i3), .val (.int i4), .val (.int i5), .unset, .unset, .unset, .unset, .unset, .unset, .unset] [(.int i1)])) rfl (by rw [hml]; rfl) (argsL := [(.int i1)]) (rest := []) rfl (lenOf pd9 rfl) rfl (by show 2 * 0 + _ ≤ _; exact Nat.le_of_eq rfl) (hb hby at_16) (by decide) (by decide)
      have N3 := Fr.app N0 M3
      have O_3 := O0.keep KK3 all0
      have K3 := K0.trans KK3 all0
      refine own_on st3 ?_
      show own_Go p.tables e below _ (T3.setTop (mkF m 19 #[.val (.int i1), .val (.int i2), .val (.int i3), .val (.int i4), .val (.int i5), .unset, .unset, .unset, .unset, .unset, .unset, .unset] [(.ref a3)]))
      have J := own_join X3 hZ3 hS3 (Nat.le_refl _) ho3 (C' := 3) (S' := 10) (by decide) (by decide)
      exact own_here ⟨a3, T3, _, J.1, J.2.1, J.2.2.1, J.2.2.2, N3, KK3, by rw [show (own_s1 i1 i2 i3 i4 i5) = (own_cs i1) from by simp only [own_s1, if_pos hc2] <;> rfl]; exact S3, (own_LO.warm (LO3.mono (Nat.le_refl _)) X3.warmed), rfl⟩
    · refine own_on (fun _ k => XS.ifNo X0.here hx rfl (hb hby at_4) rfl (XT.i0_eq_f hc2) k) ?_
      show own_Go p.tables e below _ (s₁.setTop (mkF m 7 #[.val (.int i1), .val (.int i2), .val (.int i3), .val (.int i4), .val (.int i5), .unset, .unset, .unset, .unset, .unset, .unset, .unset] []))
      refine own_on (fun _ k => XT.bipushV X0.here hx rfl (42 : Int32) (hb hby at_7) (by decide) k) ?_
      show own_Go p.tables e below _ (s₁.setTop (mkF m 9 #[.val (.int i1), .val (.int i2), .val (.int i3), .val (.int i4), .val (.int i5), .unset, .unset, .unset, .unset, .unset, .unset, .unset] [(.int (42 : Int32))]))
      obtain ⟨_, T4, L4, X4, ⟨a4, rfl, M4, KK4, -, S4⟩, st4⟩ := own_callS X0 hx hZ hown (hw _ (List.mem_of_getElem? (i := 40) rfl)) (hw _ (List.mem_of_getElem? (i := 41) rfl)) (hw _ (List.mem_of_getElem? (i := 8) rfl)) (hw _ (List.mem_of_getElem? (i := 42) rfl)) (by decide) (W := 0) (rm5 l Z a0 hw [] (42 : Int32) h0 n0 (Nat.le_trans Z0 K0.1) ic SC hz O0 (by decide)) (by decide) (by decide) e0 (g := (mkF m 9 #[.val (.int i1), .val (.int i2), .val (.int i3), .val (.int i4), .val (.int i5), .unset, .unset, .unset, .unset, .unset, .unset, .unset] [(.int (42 : Int32))])) rfl (by rw [hml]; rfl) (argsL := [(.int (42 : Int32))]) (rest := []) rfl (lenOf pd4 rfl) rfl (by show 2 * 0 + _ ≤ _; exact Nat.le_of_eq rfl) (hb hby at_9) (by decide) (by decide)
      have N4 := Fr.app N0 M4
      have LO_4 := LO0.keep0 KK4
      have O_4 := O0.keep KK4 all0
      have K4 := K0.trans KK4 all0
      refine own_on st4 ?_
      show own_Go p.tables e below _ (T4.setTop (mkF m 12 #[.val (.int i1), .val (.int i2), .val (.int i3), .val (.int i4), .val (.int i5), .unset, .unset, .unset, .unset, .unset, .unset, .unset] [(.ref a4)]))
      refine own_on (fun _ k => XS.goto X4.here hx rfl (pc0 := 12) (pc' := 19) rfl (hb hby at_12) (by decide) (by decide) k) ?_
      show own_Go p.tables e below _ (T4.setTop (mkF m 19 #[.val (.int i1), .val (.int i2), .val (.int i3), .val (.int i4), .val (.int i5), .unset, .unset, .unset, .unset, .unset, .unset, .unset] [(.ref a4)]))
      have J := own_join X4 hZ hS0 (Nat.zero_le _) hown (C' := 3) (S' := 10) (by decide) (by decide)
      exact own_here ⟨a4, T4, _, J.1, J.2.1, J.2.2.1, J.2.2.2, N4, KK4, by rw [show (own_s1 i1 i2 i3 i4 i5) = ([(42 : Int32)] : List Int32) from by simp only [own_s1, if_neg hc2] <;> rfl]; exact S4, (own_LO.warm (LO_4.mono K4.1) X4.warmed), rfl⟩
  have O_1 := O0.keep KK1 all0
  have K1 := K0.trans KK1 all0
  refine own_go st1 ?_
  show own_Fin p.tables e below _ (T1.setTop (mkF m 19 #[.val (.int i1), .val (.int i2), .val (.int i3), .val (.int i4), .val (.int i5), .unset, .unset, .unset, .unset, .unset, .unset, .unset] [(.ref a1)]))
  refine own_go (fun _ k => XS.astore X1.here hx rfl (hb hby at_19) rfl rfl (l' := #[.val (.int i1), .val (.int i2), .val (.int i3), .val (.int i4), .val (.int i5), .val (.ref a1), .unset, .unset, .unset, .unset, .unset, .unset]) rfl k) ?_
  show own_Fin p.tables e below _ (T1.setTop (mkF m 21 #[.val (.int i1), .val (.int i2), .val (.int i3), .val (.int i4), .val (.int i5), .val (.ref a1), .unset, .unset, .unset, .unset, .unset, .unset] []))
  obtain ⟨_, ⟨a5, T5, L5, X5, hZ5, hS5, ho5, N5, KK5, S5, LO5, rfl⟩, st5⟩ : own_Go p.tables e below (fun t => ∃ (a' : Addr) (T' : State) (L' : List Loc), Stand p l e room_1 (s.setVm T'.vm) m #[(.int i1), (.int i2), (.int i3), (.int i4), (.int i5)] below meth c T' L' 6 20 ∧ Z.Warmed39 (s.setVm T'.vm).vm ∧ s.Since T'.vm T'.heap.size ∧ (s.setVm T'.vm).vm.findClass x.cls = some m.cls ∧ Fr n0 L' ∧ Keep T1.heap T'.heap [] ∧ own_Str Z T'.heap a' (own_s2 i1 i2 i3 i4 i5) T'.heap.size ∧ own_LO Z T'.vm T'.heap T'.heap.size ∧ t = T'.setTop (mkF m 41 #[.val (.int i1), .val (.int i2), .val (.int i3), .val (.int i4), .val (.int i5), .val (.ref a1), .unset, .unset, .unset, .unset, .unset, .unset] [(.ref a')])) (T1.setTop (mkF m 21 #[.val (.int i1), .val (.int i2), .val (.int i3), .val (.int i4), .val (.int i5), .val (.ref a1), .unset, .unset, .unset, .unset, .unset, .unset] [])) := by
    refine own_on (fun _ k => XS.iload X1.here hx rfl (hb hby at_21) rfl k) ?_
    show own_Go p.tables e below _ (T1.setTop (mkF m 23 #[.val (.int i1), .val (.int i2), .val (.int i3), .val (.int i4), .val (.int i5), .val (.ref a1), .unset, .unset, .unset, .unset, .unset, .unset] [(.int i5)]))
    refine own_on (fun _ k => XT.bipushV X1.here hx rfl (8 : Int32) (hb hby at_23) (by decide) k) ?_
    show own_Go p.tables e below _ (T1.setTop (mkF m 25 #[.val (.int i1), .val (.int i2), .val (.int i3), .val (.int i4), .val (.int i5), .val (.ref a1), .unset, .unset, .unset, .unset, .unset, .unset] [(.int (8 : Int32)), (.int i5)]))
    refine own_on (fun _ k => XS.iand X1.here hx rfl (hb hby at_25) rfl k) ?_
    show own_Go p.tables e below _ (T1.setTop (mkF m 26 #[.val (.int i1), .val (.int i2), .val (.int i3), .val (.int i4), .val (.int i5), .val (.ref a1), .unset, .unset, .unset, .unset, .unset, .unset] [(.int (i5 &&& (8 : Int32)))]))
    by_cases hc6 : (i5 &&& (8 : Int32)) = (0 : Int32)
    · refine own_on (fun _ k => XS.ifYes X1.here hx rfl (pc0 := 26) (pc' := 37) rfl (hb hby at_26) rfl (XT.i0_eq_t hc6) (by decide) (by decide) k) ?_
      show own_Go p.tables e below _ (T1.setTop (mkF m 37 #[.val (.int i1), .val (.int i2), .val (.int i3), .val (.int i4), .val (.int i5), .val (.ref a1), .unset, .unset, .unset, .unset, .unset, .unset] []))
      refine own_on (fun _ k => XS.iloadN X1.here hx rfl (hb hby at_37) rfl k) ?_
      show own_Go p.tables e below _ (T1.setTop (mkF m 38 #[.val (.int i1), .val (.int i2), .val (.int i3), .val (.int i4), .val (.int i5), .val (.ref a1), .unset, .unset, .unset, .unset, .unset, .unset] [(.int i2)]))
      obtain ⟨_, T7, L7, X7, hZ7, hS7, ho7, ⟨a7, rfl, M7, KK7, S7, LO7⟩, st7⟩ := own_callSW X1 hx hZ1 hS1 (Nat.le_refl _) ho1 (hw _ (List.mem_of_getElem? (i := 0) rfl)) (hw _ (List.mem_of_getElem? (i := 1) rfl)) (hw _ (List.mem_of_getElem? (i := 2) rfl)) (hw _ (List.mem_of_getElem? (i := 3) rfl)) (by decide) (W := 0) (rm8 l Z a0 hw [] i2 T1.heap n0 (Nat.le_trans Z0 K1.1) ic SC hz O_1 hl0 hl1 hcw) (fun vm hv => own_LO.warm (LO1.mono (Nat.le_refl _)) hv) (by decide) (by decide) rfl (g := (mkF m 38 #[.val (.int i1), .val (.int i2), .val (.int i3), .val (.int i4), .val (.int i5), .val (.ref a1), .unset, .unset, .unset, .unset, .unset, .unset] [(.int i2)])) rfl (by rw [hml]; rfl) (argsL := [(.int i2)]) (rest := []) rfl (lenOf pd9 rfl) rfl (by show 2 * 0 + _ ≤ _; exact Nat.le_of_eq rfl) (hb hby at_38) (by decide) (by decide)
      have N7 := Fr.app N1 M7
      have Stra1_7 := S1.keep0 KK7
      have O_7 := O_1.keep KK7 all0
      have K7 := K1.trans KK7 all0
      refine own_on st7 ?_
      show own_Go p.tables e below _ (T7.setTop (mkF m 41 #[.val (.int i1), .val (.int i2), .val (.int i3), .val (.int i4), .val (.int i5), .val (.ref a1), .unset, .unset, .unset, .unset, .unset, .unset] [(.ref a7)]))
      have J := own_join X7 hZ7 hS7 (Nat.le_refl _) ho7 (C' := 6) (S' := 20) (by decide) (by decide)
      exact own_here ⟨a7, T7, _, J.1, J.2.1, J.2.2.1, J.2.2.2, N7, KK7, by rw [show (own_s2 i1 i2 i3 i4 i5) = (own_cs i2) from by simp only [own_s2, if_pos hc6] <;> rfl]; exact S7, (own_LO.warm (LO7.mono (Nat.le_refl _)) X7.warmed), rfl⟩
    · refine own_on (fun _ k => XS.ifNo X1.here hx rfl (hb hby at_26) rfl (XT.i0_eq_f hc6) k) ?_
      show own_Go p.tables e below _ (T1.setTop (mkF m 29 #[.val (.int i1), .val (.int i2), .val (.int i3), .val (.int i4), .val (.int i5), .val (.ref a1), .unset, .unset, .unset, .unset, .unset, .unset] []))
      refine own_on (fun _ k => XT.bipushV X1.here hx rfl (42 : Int32) (hb hby at_29) (by decide) k) ?_
      show own_Go p.tables e below _ (T1.setTop (mkF m 31 #[.val (.int i1), .val (.int i2), .val (.int i3), .val (.int i4), .val (.int i5), .val (.ref a1), .unset, .unset, .unset, .unset, .unset, .unset] [(.int (42 : Int32))]))
      obtain ⟨_, T8, L8, X8, ⟨a8, rfl, M8, KK8, -, S8⟩, st8⟩ := own_callS X1 hx hZ1 ho1 (hw _ (List.mem_of_getElem? (i := 40) rfl)) (hw _ (List.mem_of_getElem? (i := 41) rfl)) (hw _ (List.mem_of_getElem? (i := 8) rfl)) (hw _ (List.mem_of_getElem? (i := 42) rfl)) (by decide) (W := 0) (rm5 l Z a0 hw [] (42 : Int32) T1.heap n0 (Nat.le_trans Z0 K1.1) ic SC hz O_1 (by decide)) (by decide) (by decide) rfl (g := (mkF m 31 #[.val (.int i1), .val (.int i2), .val (.int i3), .val (.int i4), .val (.int i5), .val (.ref a1), .unset, .unset, .unset, .unset, .unset, .unset] [(.int (42 : Int32))])) rfl (by rw [hml]; rfl) (argsL := [(.int (42 : Int32))]) (rest := []) rfl (lenOf pd4 rfl) rfl (by show 2 * 0 + _ ≤ _; exact Nat.le_of_eq rfl) (hb hby at_31) (by decide) (by decide)
      have N8 := Fr.app N1 M8
      have Stra1_8 := S1.keep0 KK8
      have LO_8 := LO1.keep0 KK8
      have O_8 := O_1.keep KK8 all0
      have K8 := K1.trans KK8 all0
      refine own_on st8 ?_
      show own_Go p.tables e below _ (T8.setTop (mkF m 34 #[.val (.int i1), .val (.int i2), .val (.int i3), .val (.int i4), .val (.int i5), .val (.ref a1), .unset, .unset, .unset, .unset, .unset, .unset] [(.ref a8)]))
      refine own_on (fun _ k => XS.goto X8.here hx rfl (pc0 := 34) (pc' := 41) rfl (hb hby at_34) (by decide) (by decide) k) ?_
      show own_Go p.tables e below _ (T8.setTop (mkF m 41 #[.val (.int i1), .val (.int i2), .val (.int i3), .val (.int i4), .val (.int i5), .val (.ref a1), .unset, .unset, .unset, .unset, .unset, .unset] [(.ref a8)]))
      have J := own_join X8 hZ1 hS1 (Nat.le_trans (Nat.le_refl _) KK8.1) ho1 (C' := 6) (S' := 20) (by decide) (by decide)
      exact own_here ⟨a8, T8, _, J.1, J.2.1, J.2.2.1, J.2.2.2, N8, KK8, by rw [show (own_s2 i1 i2 i3 i4 i5) = ([(42 : Int32)] : List Int32) from by simp only [own_s2, if_neg hc6] <;> rfl]; exact S8, (own_LO.warm (LO_8.mono (Nat.le_trans (Nat.le_refl _) KK8.1)) X8.warmed), rfl⟩
  have Stra1_5 := S1.keep0 KK5
  have O_5 := O_1.keep KK5 all0
  have K5 := K1.trans KK5 all0
  refine own_go st5 ?_
  show own_Fin p.tables e below _ (T5.setTop (mkF m 41 #[.val (.int i1), .val (.int i2), .val (.int i3), .val (.int i4), .val (.int i5), .val (.ref a1), .unset, .unset, .unset, .unset, .unset, .unset] [(.ref a5)]))
  refine own_go (fun _ k => XS.astore X5.here hx rfl (hb hby at_41) rfl rfl (l' := #[.val (.int i1), .val (.int i2), .val (.int i3), .val (.int i4), .val (.int i5), .val (.ref a1), .val (.ref a5), .unset, .unset, .unset, .unset, .unset]) rfl k) ?_
  show own_Fin p.tables e below _ (T5.setTop (mkF m 43 #[.val (.int i1), .val (.int i2), .val (.int i3), .val (.int i4), .val (.int i5), .val (.ref a1), .val (.ref a5), .unset, .unset, .unset, .unset, .unset] []))
  obtain ⟨_, ⟨a9, T9, L9, X9, hZ9, hS9, ho9, N9, KK9, S9, LO9, rfl⟩, st9⟩ : own_Go p.tables e below (fun t => ∃ (a' : Addr) (T' : State) (L' : List Loc), Stand p l e room_1 (s.setVm T'.vm) m #[(.int i1), (.int i2), (.int i3), (.int i4), (.int i5)] below meth c T' L' 9 30 ∧ Z.Warmed39 (s.setVm T'.vm).vm ∧ s.Since T'.vm T'.heap.size ∧ (s.setVm T'.vm).vm.findClass x.cls = some m.cls ∧ Fr n0 L' ∧ Keep T5.heap T'.heap [] ∧ own_Str Z T'.heap a' (own_s3 i1 i2 i3 i4 i5) T'.heap.size ∧ own_LO Z T'.vm T'.heap T'.heap.size ∧ t = T'.setTop (mkF m 77 #[.val (.int i1), .val (.int i2), .val (.int i3), .val (.int i4), .val (.int i5), .val (.ref a1), .val (.ref a5), .unset, .unset, .unset, .unset, .unset] [(.ref a')])) (T5.setTop (mkF m 43 #[.val (.int i1), .val (.int i2), .val (.int i3), .val (.int i4), .val (.int i5), .val (.ref a1), .val (.ref a5), .unset, .unset, .unset, .unset, .unset] [])) := by
    refine own_on (fun _ k => XS.iload X5.here hx rfl (hb hby at_43) rfl k) ?_
    show own_Go p.tables e below _ (T5.setTop (mkF m 45 #[.val (.int i1), .val (.int i2), .val (.int i3), .val (.int i4), .val (.int i5), .val (.ref a1), .val (.ref a5), .unset, .unset, .unset, .unset, .unset] [(.int i5)]))
    refine own_on (fun _ k => XT.bipushV X5.here hx rfl (16 : Int32) (hb hby at_45) (by decide) k) ?_
    show own_Go p.tables e below _ (T5.setTop (mkF m 47 #[.val (.int i1), .val (.int i2), .val (.int i3), .val (.int i4), .val (.int i5), .val (.ref a1), .val (.ref a5), .unset, .unset, .unset, .unset, .unset] [(.int (16 : Int32)), (.int i5)]))
    refine own_on (fun _ k => XS.iand X5.here hx rfl (hb hby at_47) rfl k) ?_
    show own_Go p.tables e below _ (T5.setTop (mkF m 48 #[.val (.int i1), .val (.int i2), .val (.int i3), .val (.int i4), .val (.int i5), .val (.ref a1), .val (.ref a5), .unset, .unset, .unset, .unset, .unset] [(.int (i5 &&& (16 : Int32)))]))
    by_cases hc10 : (i5 &&& (16 : Int32)) = (0 : Int32)
    · refine own_on (fun _ k => XS.ifYes X5.here hx rfl (pc0 := 48) (pc' := 59) rfl (hb hby at_48) rfl (XT.i0_eq_t hc10) (by decide) (by decide) k) ?_
      show own_Go p.tables e below _ (T5.setTop (mkF m 59 #[.val (.int i1), .val (.int i2), .val (.int i3), .val (.int i4), .val (.int i5), .val (.ref a1), .val (.ref a5), .unset, .unset, .unset, .unset, .unset] []))
      refine own_on (fun _ k => XS.iload X5.here hx rfl (hb hby at_59) rfl k) ?_
      show own_Go p.tables e below _ (T5.setTop (mkF m 61 #[.val (.int i1), .val (.int i2), .val (.int i3), .val (.int i4), .val (.int i5), .val (.ref a1), .val (.ref a5), .unset, .unset, .unset, .unset, .unset] [(.int i5)]))
      refine own_on (fun _ k => XT.iconstV X5.here hx rfl (1 : Int32) (hb hby at_61) (by decide) k) ?_
      show own_Go p.tables e below _ (T5.setTop (mkF m 62 #[.val (.int i1), .val (.int i2), .val (.int i3), .val (.int i4), .val (.int i5), .val (.ref a1), .val (.ref a5), .unset, .unset, .unset, .unset, .unset] [(.int (1 : Int32)), (.int i5)]))
      refine own_on (fun _ k => XS.iand X5.here hx rfl (hb hby at_62) rfl k) ?_
      show own_Go p.tables e below _ (T5.setTop (mkF m 63 #[.val (.int i1), .val (.int i2), .val (.int i3), .val (.int i4), .val (.int i5), .val (.ref a1), .val (.ref a5), .unset, .unset, .unset, .unset, .unset] [(.int (i5 &&& (1 : Int32)))]))
      by_cases hc11 : (i5 &&& (1 : Int32)) = (0 : Int32)
      · refine own_on (fun _ k => XS.ifYes X5.here hx rfl (pc0 := 63) (pc' := 73) rfl (hb hby at_63) rfl (XT.i0_eq_t hc11) (by decide) (by decide) k) ?_
        show own_Go p.tables e below _ (T5.setTop (mkF m 73 #[.val (.int i1), .val (.int i2), .val (.int i3), .val (.int i4), .val (.int i5), .val (.ref a1), .val (.ref a5), .unset, .unset, .unset, .unset, .unset] []))
        refine own_on (fun _ k => XS.iloadN X5.here hx rfl (hb hby at_73) rfl k) ?_
        show own_Go p.tables e below _ (T5.setTop (mkF m 74 #[.val (.int i1), .val (.int i2), .val (.int i3), .val (.int i4), .val (.int i5), .val (.ref a1), .val (.ref a5), .unset, .unset, .unset, .unset, .unset] [(.int i3)]))
        obtain ⟨_, T12, L12, X12, hZ12, hS12, ho12, ⟨a12, rfl, M12, KK12, S12, LO12⟩, st12⟩ := own_callSW X5 hx hZ5 hS5 (Nat.le_refl _) ho5 (hw _ (List.mem_of_getElem? (i := 0) rfl)) (hw _ (List.mem_of_getElem? (i := 1) rfl)) (hw _ (List.mem_of_getElem? (i := 2) rfl)) (hw _ (List.mem_of_getElem? (i := 3) rfl)) (by decide) (W := 0) (rm8 l Z a0 hw [] i3 T5.heap n0 (Nat.le_trans Z0 K5.1) ic SC hz O_5 hl0 hl1 hcw) (fun vm hv => own_LO.warm (LO5.mono (Nat.le_refl _)) hv) (by decide) (by decide) rfl (g := (mkF m 74 #[.val (.int i1), .val (.int i2), .val (.int i3), .val (.int i4), .val (.int i5), .val (.ref a1), .val (.ref a5), .unset, .unset, .unset, .unset, .unset] [(.int i3)])) rfl (by rw [hml]; rfl) (argsL := [(.int i3)]) (rest := []) rfl (lenOf pd9 rfl) rfl (by show 2 * 0 + _ ≤ _; exact Nat.le_of_eq rfl) (hb hby at_74) (by decide) (by decide)
        have N12 := Fr.app N5 M12
        have Stra1_12 := Stra1_5.keep0 KK12
        have Stra5_12 := S5.keep0 KK12
        have O_12 := O_5.keep KK12 all0
        have K12 := K5.trans KK12 all0
        refine own_on st12 ?_
        show own_Go p.tables e below _ (T12.setTop (mkF m 77 #[.val (.int i1), .val (.int i2), .val (.int i3), .val (.int i4), .val (.int i5), .val (.ref a1), .val (.ref a5), .unset, .unset, .unset, .unset, .unset] [(.ref a12)]))
        have J := own_join X12 hZ12 hS12 (Nat.le_refl _) ho12 (C' := 9) (S' := 30) (by decide) (by decide)
        exact own_here ⟨a12, T12, _, J.1, J.2.1, J.2.2.1, J.2.2.2, N12, KK12, by rw [show (own_s3 i1 i2 i3 i4 i5) = (own_cs i3) from by simp only [own_s3, if_pos hc10, if_pos hc11] <;> rfl]; exact S12, (own_LO.warm (LO12.mono (Nat.le_refl _)) X12.warmed), rfl⟩
      · refine own_on (fun _ k => XS.ifNo X5.here hx rfl (hb hby at_63) rfl (XT.i0_eq_f hc11) k) ?_
        show own_Go p.tables e below _ (T5.setTop (mkF m 66 #[.val (.int i1), .val (.int i2), .val (.int i3), .val (.int i4), .val (.int i5), .val (.ref a1), .val (.ref a5), .unset, .unset, .unset, .unset, .unset] []))
        refine own_on (fun _ k => XS.iloadN X5.here hx rfl (hb hby at_66) rfl k) ?_
        show own_Go p.tables e below _ (T5.setTop (mkF m 67 #[.val (.int i1), .val (.int i2), .val (.int i3), .val (.int i4), .val (.int i5), .val (.ref a1), .val (.ref a5), .unset, .unset, .unset, .unset, .unset] [(.int i1)]))
        obtain ⟨_, T13, L13, X13, hZ13, hS13, ho13, ⟨a13, rfl, M13, KK13, S13, LO13⟩, st13⟩ := own_callSW X5 hx hZ5 hS5 (Nat.le_refl _) ho5 (hw _ (List.mem_of_getElem? (i := 0) rfl)) (hw _ (List.mem_of_getElem? (i := 1) rfl)) (hw _ (List.mem_of_getElem? (i := 2) rfl)) (hw _ (List.mem_of_getElem? (i := 3) rfl)) (by decide) (W := 0) (rm8 l Z a0 hw [] i1 T5.heap n0 (Nat.le_trans Z0 K5.1) ic SC hz O_5 hl0 hl1 hcw) (fun vm hv => own_LO.warm (LO5.mono (Nat.le_refl _)) hv) (by decide) (by decide) rfl (g := (mkF m 67 #[.val (.int i1), .val (.int i2), .val (.int i3), .val (.int i4), .val (.int i5), .val (.ref a1), .val (.ref a5), .unset, .unset, .unset, .unset, .unset] [(.int i1)])) rfl (by rw [hml]; rfl) (argsL := [(.int i1)]) (rest := []) rfl (lenOf pd9 rfl) rfl (by show 2 * 0 + _ ≤ _; exact Nat.le_of_eq rfl) (hb hby at_67) (by decide) (by decide)
        have N13 := Fr.app N5 M13
        have Stra1_13 := Stra1_5.keep0 KK13
        have Stra5_13 := S5.keep0 KK13
        have O_13 := O_5.keep KK13 all0
        have K13 := K5.trans KK13 all0
        refine own_on st13 ?_
        show own_Go p.tables e below _ (T13.setTop (mkF m 70 #[.val (.int i1), .val (.int i2), .val (.int i3), .val (.int i4), .val (.int i5), .val (.ref a1), .val (.ref a5), .unset, .unset, .unset, .unset, .unset] [(.ref a13)]))
        refine own_on (fun _ k => XS.goto X13.here hx rfl (pc0 := 70) (pc' := 77) rfl (hb hby at_70) (by decide) (by decide) k) ?_
        show own_Go p.tables e below _ (T13.setTop (mkF m 77 #[.val (.int i1), .val (.int i2), .val (.int i3), .val (.int i4), .val (.int i5), .val (.ref a1), .val (.ref a5), .unset, .unset, .unset, .unset, .unset] [(.ref a13)]))
        have J := own_join X13 hZ13 hS13 (Nat.le_refl _) ho13 (C' := 9) (S' := 30) (by decide) (by decide)
        exact own_here ⟨a13, T13, _, J.1, J.2.1, J.2.2.1, J.2.2.2, N13, KK13, by rw [show (own_s3 i1 i2 i3 i4 i5) = (own_cs i1) from by simp only [own_s3, if_pos hc10, if_neg hc11] <;> rfl]; exact S13, (own_LO.warm (LO13.mono (Nat.le_refl _)) X13.warmed), rfl⟩
    · refine own_on (fun _ k => XS.ifNo X5.here hx rfl (hb hby at_48) rfl (XT.i0_eq_f hc10) k) ?_
      show own_Go p.tables e below _ (T5.setTop (mkF m 51 #[.val (.int i1), .val (.int i2), .val (.int i3), .val (.int i4), .val (.int i5), .val (.ref a1), .val (.ref a5), .unset, .unset, .unset, .unset, .unset] []))
      refine own_on (fun _ k => XT.bipushV X5.here hx rfl (42 : Int32) (hb hby at_51) (by decide) k) ?_
      show own_Go p.tables e below _ (T5.setTop (mkF m 53 #[.val (.int i1), .val (.int i2), .val (.int i3), .val (.int i4), .val (.int i5), .val (.ref a1), .val (.ref a5), .unset, .unset, .unset, .unset, .unset] [(.int (42 : Int32))]))
      obtain ⟨_, T14, L14, X14, ⟨a14, rfl, M14, KK14, -, S14⟩, st14⟩ := own_callS X5 hx hZ5 ho5 (hw _ (List.mem_of_getElem? (i := 40) rfl)) (hw _ (List.mem_of_getElem? (i := 41) rfl)) (hw _ (List.mem_of_getElem? (i := 8) rfl)) (hw _ (List.mem_of_getElem? (i := 42) rfl)) (by decide) (W := 0) (rm5 l Z a0 hw [] (42 : Int32) T5.heap n0 (Nat.le_trans Z0 K5.1) ic SC hz O_5 (by decide)) (by decide) (by decide) rfl (g := (mkF m 53 #[.val (.int i1), .val (.int i2), .val (.int i3), .val (.int i4), .val (.int i5), .val (.ref a1), .val (.ref a5), .unset, .unset, .unset, .unset, .unset] [(.int (42 : Int32))])) rfl (by rw [hml]; rfl) (argsL := [(.int (42 : Int32))]) (rest := []) rfl (lenOf pd4 rfl) rfl (by show 2 * 0 + _ ≤ _; exact Nat.le_of_eq rfl) (hb hby at_53) (by decide) (by decide)
      have N14 := Fr.app N5 M14
      have Stra1_14 := Stra1_5.keep0 KK14
      have Stra5_14 := S5.keep0 KK14
      have LO_14 := LO5.keep0 KK14
      have O_14 := O_5.keep KK14 all0
      have K14 := K5.trans KK14 all0
      refine own_on st14 ?_
      show own_Go p.tables e below _ (T14.setTop (mkF m 56 #[.val (.int i1), .val (.int i2), .val (.int i3), .val (.int i4), .val (.int i5), .val (.ref a1), .val (.ref a5), .unset, .unset, .unset, .unset, .unset] [(.ref a14)]))
      refine own_on (fun _ k => XS.goto X14.here hx rfl (pc0 := 56) (pc' := 77) rfl (hb hby at_56) (by decide) (by decide) k) ?_
      show own_Go p.tables e below _ (T14.setTop (mkF m 77 #[.val (.int i1), .val (.int i2), .val (.int i3), .val (.int i4), .val (.int i5), .val (.ref a1), .val (.ref a5), .unset, .unset, .unset, .unset, .unset] [(.ref a14)]))
      have J := own_join X14 hZ5 hS5 (Nat.le_trans (Nat.le_refl _) KK14.1) ho5 (C' := 9) (S' := 30) (by decide) (by decide)
      exact own_here ⟨a14, T14, _, J.1, J.2.1, J.2.2.1, J.2.2.2, N14, KK14, by rw [show (own_s3 i1 i2 i3 i4 i5) = ([(42 : Int32)] : List Int32) from by simp only [own_s3, if_neg hc10] <;> rfl]; exact S14, (own_LO.warm (LO_14.mono (Nat.le_trans (Nat.le_refl _) KK14.1)) X14.warmed), rfl⟩
  have Stra1_9 := Stra1_5.keep0 KK9
  have Stra5_9 := S5.keep0 KK9
  have O_9 := O_5.keep KK9 all0
  have K9 := K5.trans KK9 all0
  refine own_go st9 ?_
  show own_Fin p.tables e below _ (T9.setTop (mkF m 77 #[.val (.int i1), .val (.int i2), .val (.int i3), .val (.int i4), .val (.int i5), .val (.ref a1), .val (.ref a5), .unset, .unset, .unset, .unset, .unset] [(.ref a9)]))
  refine own_go (fun _ k => XS.astore X9.here hx rfl (hb hby at_77) rfl rfl (l' := #[.val (.int i1), .val (.int i2), .val (.int i3), .val (.int i4), .val (.int i5), .val (.ref a1), .val (.ref a5), .val (.ref a9), .unset, .unset, .unset, .unset]) rfl k) ?_
  show own_Fin p.tables e below _ (T9.setTop (mkF m 79 #[.val (.int i1), .val (.int i2), .val (.int i3), .val (.int i4), .val (.int i5), .val (.ref a1), .val (.ref a5), .val (.ref a9), .unset, .unset, .unset, .unset] []))
  obtain ⟨_, ⟨a15, T15, L15, X15, hZ15, hS15, ho15, N15, KK15, S15, LO15, rfl⟩, st15⟩ : own_Go p.tables e below (fun t => ∃ (a' : Addr) (T' : State) (L' : List Loc), Stand p l e room_1 (s.setVm T'.vm) m #[(.int i1), (.int i2), (.int i3), (.int i4), (.int i5)] below meth c T' L' 12 40 ∧ Z.Warmed39 (s.setVm T'.vm).vm ∧ s.Since T'.vm T'.heap.size ∧ (s.setVm T'.vm).vm.findClass x.cls = some m.cls ∧ Fr n0 L' ∧ Keep T9.heap T'.heap [] ∧ own_Str Z T'.heap a' (own_s4 i1 i2 i3 i4 i5) T'.heap.size ∧ own_LO Z T'.vm T'.heap T'.heap.size ∧ t = T'.setTop (mkF m 113 #[.val (.int i1), .val (.int i2), .val (.int i3), .val (.int i4), .val (.int i5), .val (.ref a1), .val (.ref a5), .val (.ref a9), .unset, .unset, .unset, .unset] [(.ref a')])) (T9.setTop (mkF m 79 #[.val (.int i1), .val (.int i2), .val (.int i3), .val (.int i4), .val (.int i5), .val (.ref a1), .val (.ref a5), .val (.ref a9), .unset, .unset, .unset, .unset] [])) := by
    refine own_on (fun _ k => XS.iload X9.here hx rfl (hb hby at_79) rfl k) ?_
    show own_Go p.tables e below _ (T9.setTop (mkF m 81 #[.val (.int i1), .val (.int i2), .val (.int i3), .val (.int i4), .val (.int i5), .val (.ref a1), .val (.ref a5), .val (.ref a9), .unset, .unset, .unset, .unset] [(.int i5)]))
    refine own_on (fun _ k => XT.bipushV X9.here hx rfl (32 : Int32) (hb hby at_81) (by decide) k) ?_
    show own_Go p.tables e below _ (T9.setTop (mkF m 83 #[.val (.int i1), .val (.int i2), .val (.int i3), .val (.int i4), .val (.int i5), .val (.ref a1), .val (.ref a5), .val (.ref a9), .unset, .unset, .unset, .unset] [(.int (32 : Int32)), (.int i5)]))
    refine own_on (fun _ k => XS.iand X9.here hx rfl (hb hby at_83) rfl k) ?_
    show own_Go p.tables e below _ (T9.setTop (mkF m 84 #[.val (.int i1), .val (.int i2), .val (.int i3), .val (.int i4), .val (.int i5), .val (.ref a1), .val (.ref a5), .val (.ref a9), .unset, .unset, .unset, .unset] [(.int (i5 &&& (32 : Int32)))]))
    by_cases hc16 : (i5 &&& (32 : Int32)) = (0 : Int32)
    · refine own_on (fun _ k => XS.ifYes X9.here hx rfl (pc0 := 84) (pc' := 95) rfl (hb hby at_84) rfl (XT.i0_eq_t hc16) (by decide) (by decide) k) ?_
      show own_Go p.tables e below _ (T9.setTop (mkF m 95 #[.val (.int i1), .val (.int i2), .val (.int i3), .val (.int i4), .val (.int i5), .val (.ref a1), .val (.ref a5), .val (.ref a9), .unset, .unset, .unset, .unset] []))
      refine own_on (fun _ k => XS.iload X9.here hx rfl (hb hby at_95) rfl k) ?_
      show own_Go p.tables e below _ (T9.setTop (mkF m 97 #[.val (.int i1), .val (.int i2), .val (.int i3), .val (.int i4), .val (.int i5), .val (.ref a1), .val (.ref a5), .val (.ref a9), .unset, .unset, .unset, .unset] [(.int i5)]))
      refine own_on (fun _ k => XT.iconstV X9.here hx rfl (2 : Int32) (hb hby at_97) (by decide) k) ?_
      show own_Go p.tables e below _ (T9.setTop (mkF m 98 #[.val (.int i1), .val (.int i2), .val (.int i3), .val (.int i4), .val (.int i5), .val (.ref a1), .val (.ref a5), .val (.ref a9), .unset, .unset, .unset, .unset] [(.int (2 : Int32)), (.int i5)]))
      refine own_on (fun _ k => XS.iand X9.here hx rfl (hb hby at_98) rfl k) ?_
      show own_Go p.tables e below _ (T9.setTop (mkF m 99 #[.val (.int i1), .val (.int i2), .val (.int i3), .val (.int i4), .val (.int i5), .val (.ref a1), .val (.ref a5), .val (.ref a9), .unset, .unset, .unset, .unset] [(.int (i5 &&& (2 : Int32)))]))
      by_cases hc17 : (i5 &&& (2 : Int32)) = (0 : Int32)
      · refine own_on (fun _ k => XS.ifYes X9.here hx rfl (pc0 := 99) (pc' := 109) rfl (hb hby at_99) rfl (XT.i0_eq_t hc17) (by decide) (by decide) k) ?_
        show own_Go p.tables e below _ (T9.setTop (mkF m 109 #[.val (.int i1), .val (.int i2), .val (.int i3), .val (.int i4), .val (.int i5), .val (.ref a1), .val (.ref a5), .val (.ref a9), .unset, .unset, .unset, .unset] []))
        refine own_on (fun _ k => XS.iloadN X9.here hx rfl (hb hby at_109) rfl k) ?_
        show own_Go p.tables e below _ (T9.setTop (mkF m 110 #[.val (.int i1), .val (.int i2), .val (.int i3), .val (.int i4), .val (.int i5), .val (.ref a1), .val (.ref a5), .val (.ref a9), .unset, .unset, .unset, .unset] [(.int i4)]))
        obtain ⟨_, T18, L18, X18, hZ18, hS18, ho18, ⟨a18, rfl, M18, KK18, S18, LO18⟩, st18⟩ := own_callSW X9 hx hZ9 hS9 (Nat.le_refl _) ho9 (hw _ (List.mem_of_getElem? (i := 0) rfl)) (hw _ (List.mem_of_getElem? (i := 1) rfl)) (hw _ (List.mem_of_getElem? (i := 2) rfl)) (hw _ (List.mem_of_getElem? (i := 3) rfl)) (by decide) (W := 0) (rm8 l Z a0 hw [] i4 T9.heap n0 (Nat.le_trans Z0 K9.1) ic SC hz O_9 hl0 hl1 hcw) (fun vm hv => own_LO.warm (LO9.mono (Nat.le_refl _)) hv) (by decide) (by decide) rfl (g := (mkF m 110 #[.val (.int i1), .val (.int i2), .val (.int i3), .val (.int i4), .val (.int i5), .val (.ref a1), .val (.ref a5), .val (.ref a9), .unset, .unset, .unset, .unset] [(.int i4)])) rfl (by rw [hml]; rfl) (argsL := [(.int i4)]) (rest := []) rfl (lenOf pd9 rfl) rfl (by show 2 * 0 + _ ≤ _; exact Nat.le_of_eq rfl) (hb hby at_110) (by decide) (by decide)
        have N18 := Fr.app N9 M18
        have Stra1_18 := Stra1_9.keep0 KK18
        have Stra5_18 := Stra5_9.keep0 KK18
        have Stra9_18 := S9.keep0 KK18
        have O_18 := O_9.keep KK18 all0
        have K18 := K9.trans KK18 all0
        refine own_on st18 ?_
        show own_Go p.tables e below _ (T18.setTop (mkF m 113 #[.val (.int i1), .val (.int i2), .val (.int i3), .val (.int i4), .val (.int i5), .val (.ref a1), .val (.ref a5), .val (.ref a9), .unset, .unset, .unset, .unset] [(.ref a18)]))
        have J := own_join X18 hZ18 hS18 (Nat.le_refl _) ho18 (C' := 12) (S' := 40) (by decide) (by decide)
        exact own_here ⟨a18, T18, _, J.1, J.2.1, J.2.2.1, J.2.2.2, N18, KK18, by rw [show (own_s4 i1 i2 i3 i4 i5) = (own_cs i4) from by simp only [own_s4, if_pos hc16, if_pos hc17] <;> rfl]; exact S18, (own_LO.warm (LO18.mono (Nat.le_refl _)) X18.warmed), rfl⟩
      · refine own_on (fun _ k => XS.ifNo X9.here hx rfl (hb hby at_99) rfl (XT.i0_eq_f hc17) k) ?_
        show own_Go p.tables e below _ (T9.setTop (mkF m 102 #[.val (.int i1), .val (.int i2), .val (.int i3), .val (.int i4), .val (.int i5), .val (.ref a1), .val (.ref a5), .val (.ref a9), .unset, .unset, .unset, .unset] []))
        refine own_on (fun _ k => XS.iloadN X9.here hx rfl (hb hby at_102) rfl k) ?_
        show own_Go p.tables e below _ (T9.setTop (mkF m 103 #[.val (.int i1), .val (.int i2), .val (.int i3), .val (.int i4), .val (.int i5), .val (.ref a1), .val (.ref a5), .val (.ref a9), .unset, .unset, .unset, .unset] [(.int i2)]))
        obtain ⟨_, T19, L19, X19, hZ19, hS19, ho19, ⟨a19, rfl, M19, KK19, S19, LO19⟩, st19⟩ := own_callSW X9 hx hZ9 hS9 (Nat.le_refl _) ho9 (hw _ (List.mem_of_getElem? (i := 0) rfl)) (hw _ (List.mem_of_getElem? (i := 1) rfl)) (hw _ (List.mem_of_getElem? (i := 2) rfl)) (hw _ (List.mem_of_getElem? (i := 3) rfl)) (by decide) (W := 0) (rm8 l Z a0 hw [] i2 T9.heap n0 (Nat.le_trans Z0 K9.1) ic SC hz O_9 hl0 hl1 hcw) (fun vm hv => own_LO.warm (LO9.mono (Nat.le_refl _)) hv) (by decide) (by decide) rfl (g := (mkF m 103 #[.val (.int i1), .val (.int i2), .val (.int i3), .val (.int i4), .val (.int i5), .val (.ref a1), .val (.ref a5), .val (.ref a9), .unset, .unset, .unset, .unset] [(.int i2)])) rfl (by rw [hml]; rfl) (argsL := [(.int i2)]) (rest := []) rfl (lenOf pd9 rfl) rfl (by show 2 * 0 + _ ≤ _; exact Nat.le_of_eq rfl) (hb hby at_103) (by decide) (by decide)
        have N19 := Fr.app N9 M19
        have Stra1_19 := Stra1_9.keep0 KK19
        have Stra5_19 := Stra5_9.keep0 KK19
        have Stra9_19 := S9.keep0 KK19
        have O_19 := O_9.keep KK19 all0
        have K19 := K9.trans KK19 all0
        refine own_on st19 ?_
        show own_Go p.tables e below _ (T19.setTop (mkF m 106 #[.val (.int i1), .val (.int i2), .val (.int i3), .val (.int i4), .val (.int i5), .val (.ref a1), .val (.ref a5), .val (.ref a9), .unset, .unset, .unset, .unset] [(.ref a19)]))
        refine own_on (fun _ k => XS.goto X19.here hx rfl (pc0 := 106) (pc' := 113) rfl (hb hby at_106) (by decide) (by decide) k) ?_
        show own_Go p.tables e below _ (T19.setTop (mkF m 113 #[.val (.int i1), .val (.int i2), .val (.int i3), .val (.int i4), .val (.int i5), .val (.ref a1), .val (.ref a5), .val (.ref a9), .unset, .unset, .unset, .unset] [(.ref a19)]))
        have J := own_join X19 hZ19 hS19 (Nat.le_refl _) ho19 (C' := 12) (S' := 40) (by decide) (by decide)
        exact own_here ⟨a19, T19, _, J.1, J.2.1, J.2.2.1, J.2.2.2, N19, KK19, by rw [show (own_s4 i1 i2 i3 i4 i5) = (own_cs i2) from by simp only [own_s4, if_pos hc16, if_neg hc17] <;> rfl]; exact S19, (own_LO.warm (LO19.mono (Nat.le_refl _)) X19.warmed), rfl⟩
    · refine own_on (fun _ k => XS.ifNo X9.here hx rfl (hb hby at_84) rfl (XT.i0_eq_f hc16) k) ?_
      show own_Go p.tables e below _ (T9.setTop (mkF m 87 #[.val (.int i1), .val (.int i2), .val (.int i3), .val (.int i4), .val (.int i5), .val (.ref a1), .val (.ref a5), .val (.ref a9), .unset, .unset, .unset, .unset] []))
      refine own_on (fun _ k => XT.bipushV X9.here hx rfl (42 : Int32) (hb hby at_87) (by decide) k) ?_
      show own_Go p.tables e below _ (T9.setTop (mkF m 89 #[.val (.int i1), .val (.int i2), .val (.int i3), .val (.int i4), .val (.int i5), .val (.ref a1), .val (.ref a5), .val (.ref a9), .unset, .unset, .unset, .unset] [(.int (42 : Int32))]))
      obtain ⟨_, T20, L20, X20, ⟨a20, rfl, M20, KK20, -, S20⟩, st20⟩ := own_callS X9 hx hZ9 ho9 (hw _ (List.mem_of_getElem? (i := 40) rfl)) (hw _ (List.mem_of_getElem? (i := 41) rfl)) (hw _ (List.mem_of_getElem? (i := 8) rfl)) (hw _ (List.mem_of_getElem? (i := 42) rfl)) (by decide) (W := 0) (rm5 l Z a0 hw [] (42 : Int32) T9.heap n0 (Nat.le_trans Z0 K9.1) ic SC hz O_9 (by decide)) (by decide) (by decide) rfl (g := (mkF m 89 #[.val (.int i1), .val (.int i2), .val (.int i3), .val (.int i4), .val (.int i5), .val (.ref a1), .val (.ref a5), .val (.ref a9), .unset, .unset, .unset, .unset] [(.int (42 : Int32))])) rfl (by rw [hml]; rfl) (argsL := [(.int (42 : Int32))]) (rest := []) rfl (lenOf pd4 rfl) rfl (by show 2 * 0 + _ ≤ _; exact Nat.le_of_eq rfl) (hb hby at_89) (by decide) (by decide)
      have N20 := Fr.app N9 M20
      have Stra1_20 := Stra1_9.keep0 KK20
      have Stra5_20 := Stra5_9.keep0 KK20
      have Stra9_20 := S9.keep0 KK20
      have LO_20 := LO9.keep0 KK20
      have O_20 := O_9.keep KK20 all0
      have K20 := K9.trans KK20 all0
      refine own_on st20 ?_
      show own_Go p.tables e below _ (T20.setTop (mkF m 92 #[.val (.int i1), .val (.int i2), .val (.int i3), .val (.int i4), .val (.int i5), .val (.ref a1), .val (.ref a5), .val (.ref a9), .unset, .unset, .unset, .unset] [(.ref a20)]))
      refine own_on (fun _ k => XS.goto X20.here hx rfl (pc0 := 92) (pc' := 113) rfl (hb hby at_92) (by decide) (by decide) k) ?_
      show own_Go p.tables e below _ (T20.setTop (mkF m 113 #[.val (.int i1), .val (.int i2), .val (.int i3), .val (.int i4), .val (.int i5), .val (.ref a1), .val (.ref a5), .val (.ref a9), .unset, .unset, .unset, .unset] [(.ref a20)]))
      have J := own_join X20 hZ9 hS9 (Nat.le_trans (Nat.le_refl _) KK20.1) ho9 (C' := 12) (S' := 40) (by decide) (by decide)
      exact own_here ⟨a20, T20, _, J.1, J.2.1, J.2.2.1, J.2.2.2, N20, KK20, by rw [show (own_s4 i1 i2 i3 i4 i5) = ([(42 : Int32)] : List Int32) from by simp only [own_s4, if_neg hc16] <;> rfl]; exact S20, (own_LO.warm (LO_20.mono (Nat.le_trans (Nat.le_refl _) KK20.1)) X20.warmed), rfl⟩
  have Stra1_15 := Stra1_9.keep0 KK15
  have Stra5_15 := Stra5_9.keep0 KK15
  have Stra9_15 := S9.keep0 KK15
  have O_15 := O_9.keep KK15 all0
  have K15 := K9.trans KK15 all0
  refine own_go st15 ?_
  show own_Fin p.tables e below _ (T15.setTop (mkF m 113 #[.val (.int i1), .val (.int i2), .val (.int i3), .val (.int i4), .val (.int i5), .val (.ref a1), .val (.ref a5), .val (.ref a9), .unset, .unset, .unset, .unset] [(.ref a15)]))
  refine own_go (fun _ k => XS.astore X15.here hx rfl (hb hby at_113) rfl rfl (l' := #[.val (.int i1), .val (.int i2), .val (.int i3), .val (.int i4), .val (.int i5), .val (.ref a1), .val (.ref a5), .val (.ref a9), .val (.ref a15), .unset, .unset, .unset]) rfl k) ?_
  show own_Fin p.tables e below _ (T15.setTop (mkF m 115 #[.val (.int i1), .val (.int i2), .val (.int i3), .val (.int i4), .val (.int i5), .val (.ref a1), .val (.ref a5), .val (.ref a9), .val (.ref a15), .unset, .unset, .unset] []))
  obtain ⟨T21, h21, X21, e21, E21, A21, D21, -, st21⟩ := newO X15 hx hZ15 ho15 (hw _ (List.mem_of_getElem? (i := 54) rfl)) (hw _ (List.mem_of_getElem? (i := 55) rfl)) (hw _ (List.mem_of_getElem? (i := 56) rfl)) rfl (g := (mkF m 115 #[.val (.int i1), .val (.int i2), .val (.int i3), .val (.int i4), .val (.int i5), .val (.ref a1), .val (.ref a5), .val (.ref a9), .val (.ref a15), .unset, .unset, .unset] [])) rfl (hb hby at_115) (by decide) (by decide)
  obtain ⟨a21, g21⟩ : ∃ z, z = T15.heap.size := ⟨_, rfl⟩
  rw [← g21] at A21 D21 st21
  have q21 : h0.size ≤ a21 := Nat.le_trans K15.1 (Nat.le_of_eq g21.symm)
  have z21 : n0 ≤ a21 := Nat.le_trans Z0 q21
  have O_21 := O_15.ext E21
  have Stra1_21 := Stra1_15.ext E21
  have Stra5_21 := Stra5_15.ext E21
  have Stra9_21 := Stra9_15.ext E21
  have Stra15_21 := S15.ext E21
  have LO_21 := LO15.ext E21
  have K21 := K15.ext E21
  have Fa21_principalClass : Fld Z h21 a21 "com/example/grantline/grantline/eval/CredentialTarget$Owner" "principalClass" "Ljava/lang/String;" .null := D21 (Or.inr (hw _ (List.mem_of_getElem? (i := 67) rfl))) (ty := (.object "java/lang/String")) (by decide)
  have Fa21_name : Fld Z h21 a21 "com/example/grantline/grantline/eval/CredentialTarget$Owner" "name" "Ljava/lang/String;" .null := D21 (Or.inr (hw _ (List.mem_of_getElem? (i := 69) rfl))) (ty := (.object "java/lang/String")) (by decide)
  refine own_go st21 ?_
  show own_Fin p.tables e below _ (T21.setTop (mkF m 118 #[.val (.int i1), .val (.int i2), .val (.int i3), .val (.int i4), .val (.int i5), .val (.ref a1), .val (.ref a5), .val (.ref a9), .val (.ref a15), .unset, .unset, .unset] [(.ref a21)]))
  refine own_go (fun _ k => XS.dup X21.here hx rfl (hb hby at_118) rfl rfl k) ?_
  show own_Fin p.tables e below _ (T21.setTop (mkF m 119 #[.val (.int i1), .val (.int i2), .val (.int i3), .val (.int i4), .val (.int i5), .val (.ref a1), .val (.ref a5), .val (.ref a9), .val (.ref a15), .unset, .unset, .unset] [(.ref a21), (.ref a21)]))
  refine own_go (fun _ k => XS.aload X21.here hx rfl (hb hby at_119) rfl rfl k) ?_
  show own_Fin p.tables e below _ (T21.setTop (mkF m 121 #[.val (.int i1), .val (.int i2), .val (.int i3), .val (.int i4), .val (.int i5), .val (.ref a1), .val (.ref a5), .val (.ref a9), .val (.ref a15), .unset, .unset, .unset] [(.ref a1), (.ref a21), (.ref a21)]))
  refine own_go (fun _ k => XS.aload X21.here hx rfl (hb hby at_121) rfl rfl k) ?_
  show own_Fin p.tables e below _ (T21.setTop (mkF m 123 #[.val (.int i1), .val (.int i2), .val (.int i3), .val (.int i4), .val (.int i5), .val (.ref a1), .val (.ref a5), .val (.ref a9), .val (.ref a15), .unset, .unset, .unset] [(.ref a5), (.ref a1), (.ref a21), (.ref a21)]))
  obtain ⟨_, T22, L22, X22, ⟨rfl, M22, KK22, -, G22_principalClass, G22_name⟩, st22⟩ := own_callC X21 hx hZ15 ho15 rfl (hw _ (List.mem_of_getElem? (i := 57) rfl)) (hw _ (List.mem_of_getElem? (i := 58) rfl)) (hw _ (List.mem_of_getElem? (i := 56) rfl)) (hw _ (List.mem_of_getElem? (i := 59) rfl)) (by decide) (W := 1) (rm10 l Z a0 hw [] a21 a1 a5 .null .null h21 n0 (Nat.le_trans Z0 K21.1) A21 Fa21_principalClass Fa21_name z21 ) (by decide) (by decide) e21 (g := (mkF m 123 #[.val (.int i1), .val (.int i2), .val (.int i3), .val (.int i4), .val (.int i5), .val (.ref a1), .val (.ref a5), .val (.ref a9), .val (.ref a15), .unset, .unset, .unset] [(.ref a5), (.ref a1), (.ref a21), (.ref a21)])) rfl (by rw [hml]; rfl) (argsL := [(.ref a1), (.ref a5)]) (rest := [(.ref a21)]) rfl (lenOf pd11 rfl) rfl (by show 2 * 0 + _ ≤ _; exact Nat.le_of_eq rfl) (hb hby at_123) (by decide) (by decide)
  have N22 := Fr.app N15 M22
  have Stra1_22 := Stra1_21.keepC KK22 A21 (by decide) (hw _ (List.mem_of_getElem? (i := 55) rfl))
  have Stra5_22 := Stra5_21.keepC KK22 A21 (by decide) (hw _ (List.mem_of_getElem? (i := 55) rfl))
  have Stra9_22 := Stra9_21.keepC KK22 A21 (by decide) (hw _ (List.mem_of_getElem? (i := 55) rfl))
  have Stra15_22 := Stra15_21.keepC KK22 A21 (by decide) (hw _ (List.mem_of_getElem? (i := 55) rfl))
  have LO_22 := LO_21.keepC KK22 A21 (by decide) (hw _ (List.mem_of_getElem? (i := 55) rfl))
  have O_22 := O_21.keep KK22 (allS z21 all0)
  have Ea21_22 := A21.keep KK22
  have K22 := K21.trans KK22 (allS (Or.inr q21) all0)
  refine own_go st22 ?_
  show own_Fin p.tables e below _ (T22.setTop (mkF m 126 #[.val (.int i1), .val (.int i2), .val (.int i3), .val (.int i4), .val (.int i5), .val (.ref a1), .val (.ref a5), .val (.ref a9), .val (.ref a15), .unset, .unset, .unset] [(.ref a21)]))
  refine own_go (fun _ k => XS.astore X22.here hx rfl (hb hby at_126) rfl rfl (l' := #[.val (.int i1), .val (.int i2), .val (.int i3), .val (.int i4), .val (.int i5), .val (.ref a1), .val (.ref a5), .val (.ref a9), .val (.ref a15), .val (.ref a21), .unset, .unset]) rfl k) ?_
  show own_Fin p.tables e below _ (T22.setTop (mkF m 128 #[.val (.int i1), .val (.int i2), .val (.int i3), .val (.int i4), .val (.int i5), .val (.ref a1), .val (.ref a5), .val (.ref a9), .val (.ref a15), .val (.ref a21), .unset, .unset] []))
  obtain ⟨T23, h23, X23, e23, E23, A23, D23, -, st23⟩ := newO X22 hx hZ15 ho15 (hw _ (List.mem_of_getElem? (i := 54) rfl)) (hw _ (List.mem_of_getElem? (i := 55) rfl)) (hw _ (List.mem_of_getElem? (i := 56) rfl)) rfl (g := (mkF m 128 #[.val (.int i1), .val (.int i2), .val (.int i3), .val (.int i4), .val (.int i5), .val (.ref a1), .val (.ref a5), .val (.ref a9), .val (.ref a15), .val (.ref a21), .unset, .unset] [])) rfl (hb hby at_128) (by decide) (by decide)
  obtain ⟨a23, g23⟩ : ∃ z, z = T22.heap.size := ⟨_, rfl⟩
  rw [← g23] at A23 D23 st23
  have q23 : h0.size ≤ a23 := Nat.le_trans K22.1 (Nat.le_of_eq g23.symm)
  have z23 : n0 ≤ a23 := Nat.le_trans Z0 q23
  have ne_a21_a23 : a21 ≠ a23 := fun q => absurd (q ▸ Ea21_22.lt) (by rw [g23]; exact Nat.lt_irrefl _)
  have O_23 := O_22.ext E23
  have Stra1_23 := Stra1_22.ext E23
  have Stra5_23 := Stra5_22.ext E23
  have Stra9_23 := Stra9_22.ext E23
  have Stra15_23 := Stra15_22.ext E23
  have LO_23 := LO_22.ext E23
  have Ea21_23 := Ea21_22.ext E23
  have Fa21_principalClass_23 := G22_principalClass.ext E23
  have Fa21_name_23 := G22_name.ext E23
  have K23 := K22.ext E23
  have Fa23_principalClass : Fld Z h23 a23 "com/example/grantline/grantline/eval/CredentialTarget$Owner" "principalClass" "Ljava/lang/String;" .null := D23 (Or.inr (hw _ (List.mem_of_getElem? (i := 67) rfl))) (ty := (.object "java/lang/String")) (by decide)
  have Fa23_name : Fld Z h23 a23 "com/example/grantline/grantline/eval/CredentialTarget$Owner" "name" "Ljava/lang/String;" .null := D23 (Or.inr (hw _ (List.mem_of_getElem? (i := 69) rfl))) (ty := (.object "java/lang/String")) (by decide)
  refine own_go st23 ?_
  show own_Fin p.tables e below _ (T23.setTop (mkF m 131 #[.val (.int i1), .val (.int i2), .val (.int i3), .val (.int i4), .val (.int i5), .val (.ref a1), .val (.ref a5), .val (.ref a9), .val (.ref a15), .val (.ref a21), .unset, .unset] [(.ref a23)]))
  refine own_go (fun _ k => XS.dup X23.here hx rfl (hb hby at_131) rfl rfl k) ?_
  show own_Fin p.tables e below _ (T23.setTop (mkF m 132 #[.val (.int i1), .val (.int i2), .val (.int i3), .val (.int i4), .val (.int i5), .val (.ref a1), .val (.ref a5), .val (.ref a9), .val (.ref a15), .val (.ref a21), .unset, .unset] [(.ref a23), (.ref a23)]))
  refine own_go (fun _ k => XS.aload X23.here hx rfl (hb hby at_132) rfl rfl k) ?_
  show own_Fin p.tables e below _ (T23.setTop (mkF m 134 #[.val (.int i1), .val (.int i2), .val (.int i3), .val (.int i4), .val (.int i5), .val (.ref a1), .val (.ref a5), .val (.ref a9), .val (.ref a15), .val (.ref a21), .unset, .unset] [(.ref a9), (.ref a23), (.ref a23)]))
  refine own_go (fun _ k => XS.aload X23.here hx rfl (hb hby at_134) rfl rfl k) ?_
  show own_Fin p.tables e below _ (T23.setTop (mkF m 136 #[.val (.int i1), .val (.int i2), .val (.int i3), .val (.int i4), .val (.int i5), .val (.ref a1), .val (.ref a5), .val (.ref a9), .val (.ref a15), .val (.ref a21), .unset, .unset] [(.ref a15), (.ref a9), (.ref a23), (.ref a23)]))
  obtain ⟨_, T24, L24, X24, ⟨rfl, M24, KK24, -, G24_principalClass, G24_name⟩, st24⟩ := own_callC X23 hx hZ15 ho15 rfl (hw _ (List.mem_of_getElem? (i := 57) rfl)) (hw _ (List.mem_of_getElem? (i := 58) rfl)) (hw _ (List.mem_of_getElem? (i := 56) rfl)) (hw _ (List.mem_of_getElem? (i := 59) rfl)) (by decide) (W := 1) (rm10 l Z a0 hw [] a23 a9 a15 .null .null h23 n0 (Nat.le_trans Z0 K23.1) A23 Fa23_principalClass Fa23_name z23 ) (by decide) (by decide) e23 (g := (mkF m 136 #[.val (.int i1), .val (.int i2), .val (.int i3), .val (.int i4), .val (.int i5), .val (.ref a1), .val (.ref a5), .val (.ref a9), .val (.ref a15), .val (.ref a21), .unset, .unset] [(.ref a15), (.ref a9), (.ref a23), (.ref a23)])) rfl (by rw [hml]; rfl) (argsL := [(.ref a9), (.ref a15)]) (rest := [(.ref a23)]) rfl (lenOf pd11 rfl) rfl (by show 2 * 0 + _ ≤ _; exact Nat.le_of_eq rfl) (hb hby at_136) (by decide) (by decide)
  have N24 := Fr.app N22 M24
  have Stra1_24 := Stra1_23.keepC KK24 A23 (by decide) (hw _ (List.mem_of_getElem? (i := 55) rfl))
  have Stra5_24 := Stra5_23.keepC KK24 A23 (by decide) (hw _ (List.mem_of_getElem? (i := 55) rfl))
  have Stra9_24 := Stra9_23.keepC KK24 A23 (by decide) (hw _ (List.mem_of_getElem? (i := 55) rfl))
  have Stra15_24 := Stra15_23.keepC KK24 A23 (by decide) (hw _ (List.mem_of_getElem? (i := 55) rfl))
  have LO_24 := LO_23.keepC KK24 A23 (by decide) (hw _ (List.mem_of_getElem? (i := 55) rfl))
  have O_24 := O_23.keep KK24 (allS z23 all0)
  have Ea21_24 := Ea21_23.keep KK24
  have Fa21_principalClass_24 := Fa21_principalClass_23.keep KK24 (ninS ne_a21_a23 nin0)
  have Fa21_name_24 := Fa21_name_23.keep KK24 (ninS ne_a21_a23 nin0)
  have Ea23_24 := A23.keep KK24
  have K24 := K23.trans KK24 (allS (Or.inr q23) all0)
  refine own_go st24 ?_
  show own_Fin p.tables e below _ (T24.setTop (mkF m 139 #[.val (.int i1), .val (.int i2), .val (.int i3), .val (.int i4), .val (.int i5), .val (.ref a1), .val (.ref a5), .val (.ref a9), .val (.ref a15), .val (.ref a21), .unset, .unset] [(.ref a23)]))
  refine own_go (fun _ k => XS.astore X24.here hx rfl (hb hby at_139) rfl rfl (l' := #[.val (.int i1), .val (.int i2), .val (.int i3), .val (.int i4), .val (.int i5), .val (.ref a1), .val (.ref a5), .val (.ref a9), .val (.ref a15), .val (.ref a21), .val (.ref a23), .unset]) rfl k) ?_
  show own_Fin p.tables e below _ (T24.setTop (mkF m 141 #[.val (.int i1), .val (.int i2), .val (.int i3), .val (.int i4), .val (.int i5), .val (.ref a1), .val (.ref a5), .val (.ref a9), .val (.ref a15), .val (.ref a21), .val (.ref a23), .unset] []))
  refine own_go (fun _ k => XS.aload X24.here hx rfl (hb hby at_141) rfl rfl k) ?_
  show own_Fin p.tables e below _ (T24.setTop (mkF m 143 #[.val (.int i1), .val (.int i2), .val (.int i3), .val (.int i4), .val (.int i5), .val (.ref a1), .val (.ref a5), .val (.ref a9), .val (.ref a15), .val (.ref a21), .val (.ref a23), .unset] [(.ref a1)]))
  obtain ⟨_, T25, L25, X25, ⟨rfl, M25, e25⟩, st25⟩ := own_callS X24 hx hZ15 ho15 (hw _ (List.mem_of_getElem? (i := 70) rfl)) (hw _ (List.mem_of_getElem? (i := 71) rfl)) (hw _ (List.mem_of_getElem? (i := 2) rfl)) (hw _ (List.mem_of_getElem? (i := 72) rfl)) (by decide) (W := 0) (rm6 l Z a0 hw [] a1 T24.heap n0 (Nat.le_trans Z0 K24.1) (own_s1 i1 i2 i3 i4 i5) (T1.heap.size) Stra1_24 ic SC hz O_24 fm SF rf) (by decide) (by decide) rfl (g := (mkF m 143 #[.val (.int i1), .val (.int i2), .val (.int i3), .val (.int i4), .val (.int i5), .val (.ref a1), .val (.ref a5), .val (.ref a9), .val (.ref a15), .val (.ref a21), .val (.ref a23), .unset] [(.ref a1)])) rfl (by rw [hml]; rfl) (argsL := [(.ref a1)]) (rest := []) rfl (lenOf pd6 rfl) rfl (by show 2 * 0 + _ ≤ _; exact Nat.le_of_eq rfl) (hb hby at_143) (by decide) (by decide)
  have N25 := Fr.app N24 M25
  refine own_go st25 ?_
  show own_Fin p.tables e below _ (T25.setTop (mkF m 146 #[.val (.int i1), .val (.int i2), .val (.int i3), .val (.int i4), .val (.int i5), .val (.ref a1), .val (.ref a5), .val (.ref a9), .val (.ref a15), .val (.ref a21), .val (.ref a23), .unset] [(.int (f6 (own_s1 i1 i2 i3 i4 i5)))]))
  by_cases hc26 : (f6 (own_s1 i1 i2 i3 i4 i5)) = (0 : Int32)
  · refine own_go (fun _ k => XS.ifNo X25.here hx rfl (hb hby at_146) rfl (XT.i0_ne_f hc26) k) ?_
    show own_Fin p.tables e below _ (T25.setTop (mkF m 149 #[.val (.int i1), .val (.int i2), .val (.int i3), .val (.int i4), .val (.int i5), .val (.ref a1), .val (.ref a5), .val (.ref a9), .val (.ref a15), .val (.ref a21), .val (.ref a23), .unset] []))
    refine own_go (fun _ k => XS.aload X25.here hx rfl (hb hby at_149) rfl rfl k) ?_
    show own_Fin p.tables e below _ (T25.setTop (mkF m 151 #[.val (.int i1), .val (.int i2), .val (.int i3), .val (.int i4), .val (.int i5), .val (.ref a1), .val (.ref a5), .val (.ref a9), .val (.ref a15), .val (.ref a21), .val (.ref a23), .unset] [(.ref a1)]))
    refine own_go (fun _ k => XS.aload X25.here hx rfl (hb hby at_151) rfl rfl k) ?_
    show own_Fin p.tables e below _ (T25.setTop (mkF m 153 #[.val (.int i1), .val (.int i2), .val (.int i3), .val (.int i4), .val (.int i5), .val (.ref a1), .val (.ref a5), .val (.ref a9), .val (.ref a15), .val (.ref a21), .val (.ref a23), .unset] [(.ref a9), (.ref a1)]))
    obtain ⟨_, T27, L27, X27, ⟨rfl, M27, e27⟩, st27⟩ := own_callS X25 hx hZ15 ho15 (hw _ (List.mem_of_getElem? (i := 83) rfl)) (hw _ (List.mem_of_getElem? (i := 84) rfl)) (hw _ (List.mem_of_getElem? (i := 2) rfl)) (hw _ (List.mem_of_getElem? (i := 85) rfl)) (by decide) (W := 0) (rm7 l Z a0 hw [] a1 a9 T24.heap n0 (Nat.le_trans Z0 K24.1) (own_s1 i1 i2 i3 i4 i5) (own_s3 i1 i2 i3 i4 i5) (T1.heap.size) (T9.heap.size) Stra1_24 Stra9_24 ic SC hz O_24 fm SF rf) (by decide) (by decide) e25 (g := (mkF m 153 #[.val (.int i1), .val (.int i2), .val (.int i3), .val (.int i4), .val (.int i5), .val (.ref a1), .val (.ref a5), .val (.ref a9), .val (.ref a15), .val (.ref a21), .val (.ref a23), .unset] [(.ref a9), (.ref a1)])) rfl (by rw [hml]; rfl) (argsL := [(.ref a1), (.ref a9)]) (rest := []) rfl (lenOf pd7 rfl) rfl (by show 2 * 0 + _ ≤ _; exact Nat.le_of_eq rfl) (hb hby at_153) (by decide) (by decide)
    have N27 := Fr.app N25 M27
    refine own_go st27 ?_
    show own_Fin p.tables e below _ (T27.setTop (mkF m 156 #[.val (.int i1), .val (.int i2), .val (.int i3), .val (.int i4), .val (.int i5), .val (.ref a1), .val (.ref a5), .val (.ref a9), .val (.ref a15), .val (.ref a21), .val (.ref a23), .unset] [(.int (f7 (own_s1 i1 i2 i3 i4 i5) (own_s3 i1 i2 i3 i4 i5)))]))
    by_cases hc28 : (f7 (own_s1 i1 i2 i3 i4 i5) (own_s3 i1 i2 i3 i4 i5)) = (0 : Int32)
    · refine own_go (fun _ k => XS.ifYes X27.here hx rfl (pc0 := 156) (pc' := 181) rfl (hb hby at_156) rfl (XT.i0_eq_t hc28) (by decide) (by decide) k) ?_
      show own_Fin p.tables e below _ (T27.setTop (mkF m 181 #[.val (.int i1), .val (.int i2), .val (.int i3), .val (.int i4), .val (.int i5), .val (.ref a1), .val (.ref a5), .val (.ref a9), .val (.ref a15), .val (.ref a21), .val (.ref a23), .unset] []))
      refine own_go (fun _ k => XT.iconstV X27.here hx rfl (0 : Int32) (hb hby at_181) (by decide) k) ?_
      show own_Fin p.tables e below _ (T27.setTop (mkF m 182 #[.val (.int i1), .val (.int i2), .val (.int i3), .val (.int i4), .val (.int i5), .val (.ref a1), .val (.ref a5), .val (.ref a9), .val (.ref a15), .val (.ref a21), .val (.ref a23), .unset] [(.int (0 : Int32))]))
      refine own_go (fun _ k => XS.istore X27.here hx rfl (hb hby at_182) rfl (l' := #[.val (.int i1), .val (.int i2), .val (.int i3), .val (.int i4), .val (.int i5), .val (.ref a1), .val (.ref a5), .val (.ref a9), .val (.ref a15), .val (.ref a21), .val (.ref a23), .val (.int (0 : Int32))]) rfl k) ?_
      show own_Fin p.tables e below _ (T27.setTop (mkF m 184 #[.val (.int i1), .val (.int i2), .val (.int i3), .val (.int i4), .val (.int i5), .val (.ref a1), .val (.ref a5), .val (.ref a9), .val (.ref a15), .val (.ref a21), .val (.ref a23), .val (.int (0 : Int32))] []))
      refine own_go (fun _ k => XS.aload X27.here hx rfl (hb hby at_184) rfl rfl k) ?_
      show own_Fin p.tables e below _ (T27.setTop (mkF m 186 #[.val (.int i1), .val (.int i2), .val (.int i3), .val (.int i4), .val (.int i5), .val (.ref a1), .val (.ref a5), .val (.ref a9), .val (.ref a15), .val (.ref a21), .val (.ref a23), .val (.int (0 : Int32))] [(.ref a21)]))
      refine own_go (fun _ k => XS.aload X27.here hx rfl (hb hby at_186) rfl rfl k) ?_
      show own_Fin p.tables e below _ (T27.setTop (mkF m 188 #[.val (.int i1), .val (.int i2), .val (.int i3), .val (.int i4), .val (.int i5), .val (.ref a1), .val (.ref a5), .val (.ref a9), .val (.ref a15), .val (.ref a21), .val (.ref a23), .val (.int (0 : Int32))] [(.ref a23), (.ref a21)]))
      obtain ⟨_, T29, L29, X29, hZ29, hS29, ho29, ⟨rfl, M29, KK29, LO29⟩, st29⟩ := own_callVW X27 hx hZ15 hS15 (by rw [e27]; exact (Nat.le_trans (Nat.le_trans (Nat.le_trans (Nat.le_trans (Nat.le_refl _) E21.1) KK22.1) E23.1) KK24.1)) ho15 (hw _ (List.mem_of_getElem? (i := 86) rfl)) (hw _ (List.mem_of_getElem? (i := 87) rfl)) (hw _ (List.mem_of_getElem? (i := 89) rfl)) (hw _ (List.mem_of_getElem? (i := 88) rfl)) (hw _ (List.mem_of_getElem? (i := 56) rfl)) (hw _ (List.mem_of_getElem? (i := 90) rfl)) (by decide) (W := 0) (rm11 l Z a0 hw [] a21 a23 T24.heap n0 (Nat.le_trans Z0 K24.1) (own_s1 i1 i2 i3 i4 i5) (own_s2 i1 i2 i3 i4 i5) (own_s3 i1 i2 i3 i4 i5) (own_s4 i1 i2 i3 i4 i5) a1 a5 a9 a15 (T1.heap.size) (T5.heap.size) (T9.heap.size) (T15.heap.size) Fa21_principalClass_24 Fa21_name_24 G24_principalClass G24_name Stra1_24 Stra5_24 Stra9_24 Stra15_24 ic SC hz O_24 hl0 hl1 hcw) (fun vm hv => own_LO.warm (LO_24.mono (Nat.le_trans (Nat.le_trans (Nat.le_trans (Nat.le_trans (Nat.le_refl _) E21.1) KK22.1) E23.1) KK24.1)) hv) (by decide) (by decide) e27 Ea21_24 (g := (mkF m 188 #[.val (.int i1), .val (.int i2), .val (.int i3), .val (.int i4), .val (.int i5), .val (.ref a1), .val (.ref a5), .val (.ref a9), .val (.ref a15), .val (.ref a21), .val (.ref a23), .val (.int (0 : Int32))] [(.ref a23), (.ref a21)])) rfl (by rw [hml]; rfl) (argsL := [(.ref a23)]) (rest := []) rfl (lenOf pd13 rfl) rfl (by show 2 * 0 + _ ≤ _; exact Nat.le_of_eq rfl) (hb hby at_188) (by decide) (by decide)
      have N29 := Fr.app N27 M29
      have Stra1_29 := Stra1_24.keep0 KK29
      have Stra5_29 := Stra5_24.keep0 KK29
      have Stra9_29 := Stra9_24.keep0 KK29
      have Stra15_29 := Stra15_24.keep0 KK29
      have O_29 := O_24.keep KK29 all0
      have Ea21_29 := Ea21_24.keep KK29
      have Fa21_principalClass_29 := Fa21_principalClass_24.keep KK29 nin0
      have Fa21_name_29 := Fa21_name_24.keep KK29 nin0
      have Ea23_29 := Ea23_24.keep KK29
      have Fa23_principalClass_29 := G24_principalClass.keep KK29 nin0
      have Fa23_name_29 := G24_name.keep KK29 nin0
      have K29 := K24.trans KK29 all0
      refine own_go st29 ?_
      show own_Fin p.tables e below _ (T29.setTop (mkF m 191 #[.val (.int i1), .val (.int i2), .val (.int i3), .val (.int i4), .val (.int i5), .val (.ref a1), .val (.ref a5), .val (.ref a9), .val (.ref a15), .val (.ref a21), .val (.ref a23), .val (.int (0 : Int32))] [(.int (f11 (own_s1 i1 i2 i3 i4 i5) (own_s2 i1 i2 i3 i4 i5) (own_s3 i1 i2 i3 i4 i5) (own_s4 i1 i2 i3 i4 i5)))]))
      refine own_go (fun _ k => XS.iload X29.here hx rfl (hb hby at_191) rfl k) ?_
      show own_Fin p.tables e below _ (T29.setTop (mkF m 193 #[.val (.int i1), .val (.int i2), .val (.int i3), .val (.int i4), .val (.int i5), .val (.ref a1), .val (.ref a5), .val (.ref a9), .val (.ref a15), .val (.ref a21), .val (.ref a23), .val (.int (0 : Int32))] [(.int (0 : Int32)), (.int (f11 (own_s1 i1 i2 i3 i4 i5) (own_s2 i1 i2 i3 i4 i5) (own_s3 i1 i2 i3 i4 i5) (own_s4 i1 i2 i3 i4 i5)))]))
      by_cases hc30 : (f11 (own_s1 i1 i2 i3 i4 i5) (own_s2 i1 i2 i3 i4 i5) (own_s3 i1 i2 i3 i4 i5) (own_s4 i1 i2 i3 i4 i5)) = (0 : Int32)
      · refine own_go (fun _ k => XS.icmpNo X29.here hx rfl (hb hby at_193) rfl (XT.ii_ne_f hc30) k) ?_
        show own_Fin p.tables e below _ (T29.setTop (mkF m 196 #[.val (.int i1), .val (.int i2), .val (.int i3), .val (.int i4), .val (.int i5), .val (.ref a1), .val (.ref a5), .val (.ref a9), .val (.ref a15), .val (.ref a21), .val (.ref a23), .val (.int (0 : Int32))] []))
        refine own_go (fun _ k => XT.iconstV X29.here hx rfl (1 : Int32) (hb hby at_196) (by decide) k) ?_
        show own_Fin p.tables e below _ (T29.setTop (mkF m 197 #[.val (.int i1), .val (.int i2), .val (.int i3), .val (.int i4), .val (.int i5), .val (.ref a1), .val (.ref a5), .val (.ref a9), .val (.ref a15), .val (.ref a21), .val (.ref a23), .val (.int (0 : Int32))] [(.int (1 : Int32))]))
        refine own_go (fun _ k => XS.goto X29.here hx rfl (pc0 := 197) (pc' := 201) rfl (hb hby at_197) (by decide) (by decide) k) ?_
        show own_Fin p.tables e below _ (T29.setTop (mkF m 201 #[.val (.int i1), .val (.int i2), .val (.int i3), .val (.int i4), .val (.int i5), .val (.ref a1), .val (.ref a5), .val (.ref a9), .val (.ref a15), .val (.ref a21), .val (.ref a23), .val (.int (0 : Int32))] [(.int (1 : Int32))]))
        refine own_retNW X29 hx hlk hS29 (Nat.le_refl _) (t := .boolean) hret (by simp) (hb hby at_201) ?_ (by decide) (by decide)
        exact ⟨by rw [show f0 i1 i2 i3 i4 i5 = (1 : Int32) from by simp only [f0, if_pos hc26, if_pos hc28, if_pos hc30]] <;> rfl, N29⟩
      · refine own_go (fun _ k => XS.icmpYes X29.here hx rfl (pc0 := 193) (pc' := 200) rfl (hb hby at_193) rfl (XT.ii_ne_t hc30) (by decide) (by decide) k) ?_
        show own_Fin p.tables e below _ (T29.setTop (mkF m 200 #[.val (.int i1), .val (.int i2), .val (.int i3), .val (.int i4), .val (.int i5), .val (.ref a1), .val (.ref a5), .val (.ref a9), .val (.ref a15), .val (.ref a21), .val (.ref a23), .val (.int (0 : Int32))] []))
        refine own_go (fun _ k => XT.iconstV X29.here hx rfl (0 : Int32) (hb hby at_200) (by decide) k) ?_
        show own_Fin p.tables e below _ (T29.setTop (mkF m 201 #[.val (.int i1), .val (.int i2), .val (.int i3), .val (.int i4), .val (.int i5), .val (.ref a1), .val (.ref a5), .val (.ref a9), .val (.ref a15), .val (.ref a21), .val (.ref a23), .val (.int (0 : Int32))] [(.int (0 : Int32))]))
        refine own_retNW X29 hx hlk hS29 (Nat.le_refl _) (t := .boolean) hret (by simp) (hb hby at_201) ?_ (by decide) (by decide)
        exact ⟨by rw [show f0 i1 i2 i3 i4 i5 = (0 : Int32) from by simp only [f0, if_pos hc26, if_pos hc28, if_neg hc30]] <;> rfl, N29⟩
    · refine own_go (fun _ k => XS.ifNo X27.here hx rfl (hb hby at_156) rfl (XT.i0_eq_f hc28) k) ?_
      show own_Fin p.tables e below _ (T27.setTop (mkF m 159 #[.val (.int i1), .val (.int i2), .val (.int i3), .val (.int i4), .val (.int i5), .val (.ref a1), .val (.ref a5), .val (.ref a9), .val (.ref a15), .val (.ref a21), .val (.ref a23), .unset] []))
      refine own_go (fun _ k => XS.aload X27.here hx rfl (hb hby at_159) rfl rfl k) ?_
      show own_Fin p.tables e below _ (T27.setTop (mkF m 161 #[.val (.int i1), .val (.int i2), .val (.int i3), .val (.int i4), .val (.int i5), .val (.ref a1), .val (.ref a5), .val (.ref a9), .val (.ref a15), .val (.ref a21), .val (.ref a23), .unset] [(.ref a5)]))
      obtain ⟨_, T31, L31, X31, ⟨rfl, M31, e31⟩, st31⟩ := own_callS X27 hx hZ15 ho15 (hw _ (List.mem_of_getElem? (i := 70) rfl)) (hw _ (List.mem_of_getElem? (i := 71) rfl)) (hw _ (List.mem_of_getElem? (i := 2) rfl)) (hw _ (List.mem_of_getElem? (i := 72) rfl)) (by decide) (W := 0) (rm6 l Z a0 hw [] a5 T24.heap n0 (Nat.le_trans Z0 K24.1) (own_s2 i1 i2 i3 i4 i5) (T5.heap.size) Stra5_24 ic SC hz O_24 fm SF rf) (by decide) (by decide) e27 (g := (mkF m 161 #[.val (.int i1), .val (.int i2), .val (.int i3), .val (.int i4), .val (.int i5), .val (.ref a1), .val (.ref a5), .val (.ref a9), .val (.ref a15), .val (.ref a21), .val (.ref a23), .unset] [(.ref a5)])) rfl (by rw [hml]; rfl) (argsL := [(.ref a5)]) (rest := []) rfl (lenOf pd6 rfl) rfl (by show 2 * 0 + _ ≤ _; exact Nat.le_of_eq rfl) (hb hby at_161) (by decide) (by decide)
      have N31 := Fr.app N27 M31
      refine own_go st31 ?_
      show own_Fin p.tables e below _ (T31.setTop (mkF m 164 #[.val (.int i1), .val (.int i2), .val (.int i3), .val (.int i4), .val (.int i5), .val (.ref a1), .val (.ref a5), .val (.ref a9), .val (.ref a15), .val (.ref a21), .val (.ref a23), .unset] [(.int (f6 (own_s2 i1 i2 i3 i4 i5)))]))
      by_cases hc32 : (f6 (own_s2 i1 i2 i3 i4 i5)) = (0 : Int32)
      · refine own_go (fun _ k => XS.ifNo X31.here hx rfl (hb hby at_164) rfl (XT.i0_ne_f hc32) k) ?_
        show own_Fin p.tables e below _ (T31.setTop (mkF m 167 #[.val (.int i1), .val (.int i2), .val (.int i3), .val (.int i4), .val (.int i5), .val (.ref a1), .val (.ref a5), .val (.ref a9), .val (.ref a15), .val (.ref a21), .val (.ref a23), .unset] []))
        refine own_go (fun _ k => XS.aload X31.here hx rfl (hb hby at_167) rfl rfl k) ?_
        show own_Fin p.tables e below _ (T31.setTop (mkF m 169 #[.val (.int i1), .val (.int i2), .val (.int i3), .val (.int i4), .val (.int i5), .val (.ref a1), .val (.ref a5), .val (.ref a9), .val (.ref a15), .val (.ref a21), .val (.ref a23), .unset] [(.ref a5)]))
        refine own_go (fun _ k => XS.aload X31.here hx rfl (hb hby at_169) rfl rfl k) ?_
        show own_Fin p.tables e below _ (T31.setTop (mkF m 171 #[.val (.int i1), .val (.int i2), .val (.int i3), .val (.int i4), .val (.int i5), .val (.ref a1), .val (.ref a5), .val (.ref a9), .val (.ref a15), .val (.ref a21), .val (.ref a23), .unset] [(.ref a15), (.ref a5)]))
        obtain ⟨_, T33, L33, X33, ⟨rfl, M33, e33⟩, st33⟩ := own_callS X31 hx hZ15 ho15 (hw _ (List.mem_of_getElem? (i := 83) rfl)) (hw _ (List.mem_of_getElem? (i := 84) rfl)) (hw _ (List.mem_of_getElem? (i := 2) rfl)) (hw _ (List.mem_of_getElem? (i := 85) rfl)) (by decide) (W := 0) (rm7 l Z a0 hw [] a5 a15 T24.heap n0 (Nat.le_trans Z0 K24.1) (own_s2 i1 i2 i3 i4 i5) (own_s4 i1 i2 i3 i4 i5) (T5.heap.size) (T15.heap.size) Stra5_24 Stra15_24 ic SC hz O_24 fm SF rf) (by decide) (by decide) e31 (g := (mkF m 171 #[.val (.int i1), .val (.int i2), .val (.int i3), .val (.int i4), .val (.int i5), .val (.ref a1), .val (.ref a5), .val (.ref a9), .val (.ref a15), .val (.ref a21), .val (.ref a23), .unset] [(.ref a15), (.ref a5)])) rfl (by rw [hml]; rfl) (argsL := [(.ref a5), (.ref a15)]) (rest := []) rfl (lenOf pd7 rfl) rfl (by show 2 * 0 + _ ≤ _; exact Nat.le_of_eq rfl) (hb hby at_171) (by decide) (by decide)
        have N33 := Fr.app N31 M33
        refine own_go st33 ?_
        show own_Fin p.tables e below _ (T33.setTop (mkF m 174 #[.val (.int i1), .val (.int i2), .val (.int i3), .val (.int i4), .val (.int i5), .val (.ref a1), .val (.ref a5), .val (.ref a9), .val (.ref a15), .val (.ref a21), .val (.ref a23), .unset] [(.int (f7 (own_s2 i1 i2 i3 i4 i5) (own_s4 i1 i2 i3 i4 i5)))]))
        by_cases hc34 : (f7 (own_s2 i1 i2 i3 i4 i5) (own_s4 i1 i2 i3 i4 i5)) = (0 : Int32)
        · refine own_go (fun _ k => XS.ifYes X33.here hx rfl (pc0 := 174) (pc' := 181) rfl (hb hby at_174) rfl (XT.i0_eq_t hc34) (by decide) (by decide) k) ?_
          show own_Fin p.tables e below _ (T33.setTop (mkF m 181 #[.val (.int i1), .val (.int i2), .val (.int i3), .val (.int i4), .val (.int i5), .val (.ref a1), .val (.ref a5), .val (.ref a9), .val (.ref a15), .val (.ref a21), .val (.ref a23), .unset] []))
          refine own_go (fun _ k => XT.iconstV X33.here hx rfl (0 : Int32) (hb hby at_181) (by decide) k) ?_
          show own_Fin p.tables e below _ (T33.setTop (mkF m 182 #[.val (.int i1), .val (.int i2), .val (.int i3), .val (.int i4), .val (.int i5), .val (.ref a1), .val (.ref a5), .val (.ref a9), .val (.ref a15), .val (.ref a21), .val (.ref a23), .unset] [(.int (0 : Int32))]))
          refine own_go (fun _ k => XS.istore X33.here hx rfl (hb hby at_182) rfl (l' := #[.val (.int i1), .val (.int i2), .val (.int i3), .val (.int i4), .val (.int i5), .val (.ref a1), .val (.ref a5), .val (.ref a9), .val (.ref a15), .val (.ref a21), .val (.ref a23), .val (.int (0 : Int32))]) rfl k) ?_
          show own_Fin p.tables e below _ (T33.setTop (mkF m 184 #[.val (.int i1), .val (.int i2), .val (.int i3), .val (.int i4), .val (.int i5), .val (.ref a1), .val (.ref a5), .val (.ref a9), .val (.ref a15), .val (.ref a21), .val (.ref a23), .val (.int (0 : Int32))] []))
          refine own_go (fun _ k => XS.aload X33.here hx rfl (hb hby at_184) rfl rfl k) ?_
          show own_Fin p.tables e below _ (T33.setTop (mkF m 186 #[.val (.int i1), .val (.int i2), .val (.int i3), .val (.int i4), .val (.int i5), .val (.ref a1), .val (.ref a5), .val (.ref a9), .val (.ref a15), .val (.ref a21), .val (.ref a23), .val (.int (0 : Int32))] [(.ref a21)]))
          refine own_go (fun _ k => XS.aload X33.here hx rfl (hb hby at_186) rfl rfl k) ?_
          show own_Fin p.tables e below _ (T33.setTop (mkF m 188 #[.val (.int i1), .val (.int i2), .val (.int i3), .val (.int i4), .val (.int i5), .val (.ref a1), .val (.ref a5), .val (.ref a9), .val (.ref a15), .val (.ref a21), .val (.ref a23), .val (.int (0 : Int32))] [(.ref a23), (.ref a21)]))
          obtain ⟨_, T35, L35, X35, hZ35, hS35, ho35, ⟨rfl, M35, KK35, LO35⟩, st35⟩ := own_callVW X33 hx hZ15 hS15 (by rw [e33]; exact (Nat.le_trans (Nat.le_trans (Nat.le_trans (Nat.le_trans (Nat.le_refl _) E21.1) KK22.1) E23.1) KK24.1)) ho15 (hw _ (List.mem_of_getElem? (i := 86) rfl)) (hw _ (List.mem_of_getElem? (i := 87) rfl)) (hw _ (List.mem_of_getElem? (i := 89) rfl)) (hw _ (List.mem_of_getElem? (i := 88) rfl)) (hw _ (List.mem_of_getElem? (i := 56) rfl)) (hw _ (List.mem_of_getElem? (i := 90) rfl)) (by decide) (W := 0) (rm11 l Z a0 hw [] a21 a23 T24.heap n0 (Nat.le_trans Z0 K24.1) (own_s1 i1 i2 i3 i4 i5) (own_s2 i1 i2 i3 i4 i5) (own_s3 i1 i2 i3 i4 i5) (own_s4 i1 i2 i3 i4 i5) a1 a5 a9 a15 (T1.heap.size) (T5.heap.size) (T9.heap.size) (T15.heap.size) Fa21_principalClass_24 Fa21_name_24 G24_principalClass G24_name Stra1_24 Stra5_24 Stra9_24 Stra15_24 ic SC hz O_24 hl0 hl1 hcw) (fun vm hv => own_LO.warm (LO_24.mono (Nat.le_trans (Nat.le_trans (Nat.le_trans (Nat.le_trans (Nat.le_refl _) E21.1) KK22.1) E23.1) KK24.1)) hv) (by decide) (by decide) e33 Ea21_24 (g := (mkF m 188 #[.val (.int i1), .val (.int i2), .val (.int i3), .val (.int i4), .val (.int i5), .val (.ref a1), .val (.ref a5), .val (.ref a9), .val (.ref a15), .val (.ref a21), .val (.ref a23), .val (.int (0 : Int32))] [(.ref a23), (.ref a21)])) rfl (by rw [hml]; rfl) (argsL := [(.ref a23)]) (rest := []) rfl (lenOf pd13 rfl) rfl (by show 2 * 0 + _ ≤ _; exact Nat.le_of_eq rfl) (hb hby at_188) (by decide) (by decide)
          have N35 := Fr.app N33 M35
          have Stra1_35 := Stra1_24.keep0 KK35
          have Stra5_35 := Stra5_24.keep0 KK35
          have Stra9_35 := Stra9_24.keep0 KK35
          have Stra15_35 := Stra15_24.keep0 KK35
          have O_35 := O_24.keep KK35 all0
          have Ea21_35 := Ea21_24.keep KK35
          have Fa21_principalClass_35 := Fa21_principalClass_24.keep KK35 nin0
          have Fa21_name_35 := Fa21_name_24.keep KK35 nin0
          have Ea23_35 := Ea23_24.keep KK35
          have Fa23_principalClass_35 := G24_principalClass.keep KK35 nin0
          have Fa23_name_35 := G24_name.keep KK35 nin0
          have K35 := K24.trans KK35 all0
          refine own_go st35 ?_
          show own_Fin p.tables e below _ (T35.setTop (mkF m 191 #[.val (.int i1), .val (.int i2), .val (.int i3), .val (.int i4), .val (.int i5), .val (.ref a1), .val (.ref a5), .val (.ref a9), .val (.ref a15), .val (.ref a21), .val (.ref a23), .val (.int (0 : Int32))] [(.int (f11 (own_s1 i1 i2 i3 i4 i5) (own_s2 i1 i2 i3 i4 i5) (own_s3 i1 i2 i3 i4 i5) (own_s4 i1 i2 i3 i4 i5)))]))
          refine own_go (fun _ k => XS.iload X35.here hx rfl (hb hby at_191) rfl k) ?_
          show own_Fin p.tables e below _ (T35.setTop (mkF m 193 #[.val (.int i1), .val (.int i2), .val (.int i3), .val (.int i4), .val (.int i5), .val (.ref a1), .val (.ref a5), .val (.ref a9), .val (.ref a15), .val (.ref a21), .val (.ref a23), .val (.int (0 : Int32))] [(.int (0 : Int32)), (.int (f11 (own_s1 i1 i2 i3 i4 i5) (own_s2 i1 i2 i3 i4 i5) (own_s3 i1 i2 i3 i4 i5) (own_s4 i1 i2 i3 i4 i5)))]))
          by_cases hc36 : (f11 (own_s1 i1 i2 i3 i4 i5) (own_s2 i1 i2 i3 i4 i5) (own_s3 i1 i2 i3 i4 i5) (own_s4 i1 i2 i3 i4 i5)) = (0 : Int32)
          · refine own_go (fun _ k => XS.icmpNo X35.here hx rfl (hb hby at_193) rfl (XT.ii_ne_f hc36) k) ?_
            show own_Fin p.tables e below _ (T35.setTop (mkF m 196 #[.val (.int i1), .val (.int i2), .val (.int i3), .val (.int i4), .val (.int i5), .val (.ref a1), .val (.ref a5), .val (.ref a9), .val (.ref a15), .val (.ref a21), .val (.ref a23), .val (.int (0 : Int32))] []))
            refine own_go (fun _ k => XT.iconstV X35.here hx rfl (1 : Int32) (hb hby at_196) (by decide) k) ?_
            show own_Fin p.tables e below _ (T35.setTop (mkF m 197 #[.val (.int i1), .val (.int i2), .val (.int i3), .val (.int i4), .val (.int i5), .val (.ref a1), .val (.ref a5), .val (.ref a9), .val (.ref a15), .val (.ref a21), .val (.ref a23), .val (.int (0 : Int32))] [(.int (1 : Int32))]))
            refine own_go (fun _ k => XS.goto X35.here hx rfl (pc0 := 197) (pc' := 201) rfl (hb hby at_197) (by decide) (by decide) k) ?_
            show own_Fin p.tables e below _ (T35.setTop (mkF m 201 #[.val (.int i1), .val (.int i2), .val (.int i3), .val (.int i4), .val (.int i5), .val (.ref a1), .val (.ref a5), .val (.ref a9), .val (.ref a15), .val (.ref a21), .val (.ref a23), .val (.int (0 : Int32))] [(.int (1 : Int32))]))
            refine own_retNW X35 hx hlk hS35 (Nat.le_refl _) (t := .boolean) hret (by simp) (hb hby at_201) ?_ (by decide) (by decide)
            exact ⟨by rw [show f0 i1 i2 i3 i4 i5 = (1 : Int32) from by simp only [f0, if_pos hc26, if_neg hc28, if_pos hc32, if_pos hc34, if_pos hc36]] <;> rfl, N35⟩
          · refine own_go (fun _ k => XS.icmpYes X35.here hx rfl (pc0 := 193) (pc' := 200) rfl (hb hby at_193) rfl (XT.ii_ne_t hc36) (by decide) (by decide) k) ?_
            show own_Fin p.tables e below _ (T35.setTop (mkF m 200 #[.val (.int i1), .val (.int i2), .val (.int i3), .val (.int i4), .val (.int i5), .val (.ref a1), .val (.ref a5), .val (.ref a9), .val (.ref a15), .val (.ref a21), .val (.ref a23), .val (.int (0 : Int32))] []))
            refine own_go (fun _ k => XT.iconstV X35.here hx rfl (0 : Int32) (hb hby at_200) (by decide) k) ?_
            show own_Fin p.tables e below _ (T35.setTop (mkF m 201 #[.val (.int i1), .val (.int i2), .val (.int i3), .val (.int i4), .val (.int i5), .val (.ref a1), .val (.ref a5), .val (.ref a9), .val (.ref a15), .val (.ref a21), .val (.ref a23), .val (.int (0 : Int32))] [(.int (0 : Int32))]))
            refine own_retNW X35 hx hlk hS35 (Nat.le_refl _) (t := .boolean) hret (by simp) (hb hby at_201) ?_ (by decide) (by decide)
            exact ⟨by rw [show f0 i1 i2 i3 i4 i5 = (0 : Int32) from by simp only [f0, if_pos hc26, if_neg hc28, if_pos hc32, if_pos hc34, if_neg hc36]] <;> rfl, N35⟩
        · refine own_go (fun _ k => XS.ifNo X33.here hx rfl (hb hby at_174) rfl (XT.i0_eq_f hc34) k) ?_
          show own_Fin p.tables e below _ (T33.setTop (mkF m 177 #[.val (.int i1), .val (.int i2), .val (.int i3), .val (.int i4), .val (.int i5), .val (.ref a1), .val (.ref a5), .val (.ref a9), .val (.ref a15), .val (.ref a21), .val (.ref a23), .unset] []))
          refine own_go (fun _ k => XT.iconstV X33.here hx rfl (1 : Int32) (hb hby at_177) (by decide) k) ?_
          show own_Fin p.tables e below _ (T33.setTop (mkF m 178 #[.val (.int i1), .val (.int i2), .val (.int i3), .val (.int i4), .val (.int i5), .val (.ref a1), .val (.ref a5), .val (.ref a9), .val (.ref a15), .val (.ref a21), .val (.ref a23), .unset] [(.int (1 : Int32))]))
          refine own_go (fun _ k => XS.goto X33.here hx rfl (pc0 := 178) (pc' := 182) rfl (hb hby at_178) (by decide) (by decide) k) ?_
          show own_Fin p.tables e below _ (T33.setTop (mkF m 182 #[.val (.int i1), .val (.int i2), .val (.int i3), .val (.int i4), .val (.int i5), .val (.ref a1), .val (.ref a5), .val (.ref a9), .val (.ref a15), .val (.ref a21), .val (.ref a23), .unset] [(.int (1 : Int32))]))
          refine own_go (fun _ k => XS.istore X33.here hx rfl (hb hby at_182) rfl (l' := #[.val (.int i1), .val (.int i2), .val (.int i3), .val (.int i4), .val (.int i5), .val (.ref a1), .val (.ref a5), .val (.ref a9), .val (.ref a15), .val (.ref a21), .val (.ref a23), .val (.int (1 : Int32))]) rfl k) ?_
          show own_Fin p.tables e below _ (T33.setTop (mkF m 184 #[.val (.int i1), .val (.int i2), .val (.int i3), .val (.int i4), .val (.int i5), .val (.ref a1), .val (.ref a5), .val (.ref a9), .val (.ref a15), .val (.ref a21), .val (.ref a23), .val (.int (1 : Int32))] []))
          refine own_go (fun _ k => XS.aload X33.here hx rfl (hb hby at_184) rfl rfl k) ?_
          show own_Fin p.tables e below _ (T33.setTop (mkF m 186 #[.val (.int i1), .val (.int i2), .val (.int i3), .val (.int i4), .val (.int i5), .val (.ref a1), .val (.ref a5), .val (.ref a9), .val (.ref a15), .val (.ref a21), .val (.ref a23), .val (.int (1 : Int32))] [(.ref a21)]))
          refine own_go (fun _ k => XS.aload X33.here hx rfl (hb hby at_186) rfl rfl k) ?_
          show own_Fin p.tables e below _ (T33.setTop (mkF m 188 #[.val (.int i1), .val (.int i2), .val (.int i3), .val (.int i4), .val (.int i5), .val (.ref a1), .val (.ref a5), .val (.ref a9), .val (.ref a15), .val (.ref a21), .val (.ref a23), .val (.int (1 : Int32))] [(.ref a23), (.ref a21)]))
          obtain ⟨_, T37, L37, X37, hZ37, hS37, ho37, ⟨rfl, M37, KK37, LO37⟩, st37⟩ := own_callVW X33 hx hZ15 hS15 (by rw [e33]; exact (Nat.le_trans (Nat.le_trans (Nat.le_trans (Nat.le_trans (Nat.le_refl _) E21.1) KK22.1) E23.1) KK24.1)) ho15 (hw _ (List.mem_of_getElem? (i := 86) rfl)) (hw _ (List.mem_of_getElem? (i := 87) rfl)) (hw _ (List.mem_of_getElem? (i := 89) rfl)) (hw _ (List.mem_of_getElem? (i := 88) rfl)) (hw _ (List.mem_of_getElem? (i := 56) rfl)) (hw _ (List.mem_of_getElem? (i := 90) rfl)) (by decide) (W := 0) (rm11 l Z a0 hw [] a21 a23 T24.heap n0 (Nat.le_trans Z0 K24.1) (own_s1 i1 i2 i3 i4 i5) (own_s2 i1 i2 i3 i4 i5) (own_s3 i1 i2 i3 i4 i5) (own_s4 i1 i2 i3 i4 i5) a1 a5 a9 a15 (T1.heap.size) (T5.heap.size) (T9.heap.size) (T15.heap.size) Fa21_principalClass_24 Fa21_name_24 G24_principalClass G24_name Stra1_24 Stra5_24 Stra9_24 Stra15_24 ic SC hz O_24 hl0 hl1 hcw) (fun vm hv => own_LO.warm (LO_24.mono (Nat.le_trans (Nat.le_trans (Nat.le_trans (Nat.le_trans (Nat.le_refl _) E21.1) KK22.1) E23.1) KK24.1)) hv) (by decide) (by decide) e33 Ea21_24 (g := (mkF m 188 #[.val (.int i1), .val (.int i2), .val (.int i3), .val (.int i4), .val (.int i5), .val (.ref a1), .val (.ref a5), .val (.ref a9), .val (.ref a15), .val (.ref a21), .val (.ref a23), .val (.int (1 : Int32))] [(.ref a23), (.ref a21)])) rfl (by rw [hml]; rfl) (argsL := [(.ref a23)]) (rest := []) rfl (lenOf pd13 rfl) rfl (by show 2 * 0 + _ ≤ _; exact Nat.le_of_eq rfl) (hb hby at_188) (by decide) (by decide)
          have N37 := Fr.app N33 M37
          have Stra1_37 := Stra1_24.keep0 KK37
          have Stra5_37 := Stra5_24.keep0 KK37
          have Stra9_37 := Stra9_24.keep0 KK37
          have Stra15_37 := Stra15_24.keep0 KK37
          have O_37 := O_24.keep KK37 all0
          have Ea21_37 := Ea21_24.keep KK37
          have Fa21_principalClass_37 := Fa21_principalClass_24.keep KK37 nin0
          have Fa21_name_37 := Fa21_name_24.keep KK37 nin0
          have Ea23_37 := Ea23_24.keep KK37
          have Fa23_principalClass_37 := G24_principalClass.keep KK37 nin0
          have Fa23_name_37 := G24_name.keep KK37 nin0
          have K37 := K24.trans KK37 all0
          refine own_go st37 ?_
          show own_Fin p.tables e below _ (T37.setTop (mkF m 191 #[.val (.int i1), .val (.int i2), .val (.int i3), .val (.int i4), .val (.int i5), .val (.ref a1), .val (.ref a5), .val (.ref a9), .val (.ref a15), .val (.ref a21), .val (.ref a23), .val (.int (1 : Int32))] [(.int (f11 (own_s1 i1 i2 i3 i4 i5) (own_s2 i1 i2 i3 i4 i5) (own_s3 i1 i2 i3 i4 i5) (own_s4 i1 i2 i3 i4 i5)))]))
          refine own_go (fun _ k => XS.iload X37.here hx rfl (hb hby at_191) rfl k) ?_
          show own_Fin p.tables e below _ (T37.setTop (mkF m 193 #[.val (.int i1), .val (.int i2), .val (.int i3), .val (.int i4), .val (.int i5), .val (.ref a1), .val (.ref a5), .val (.ref a9), .val (.ref a15), .val (.ref a21), .val (.ref a23), .val (.int (1 : Int32))] [(.int (1 : Int32)), (.int (f11 (own_s1 i1 i2 i3 i4 i5) (own_s2 i1 i2 i3 i4 i5) (own_s3 i1 i2 i3 i4 i5) (own_s4 i1 i2 i3 i4 i5)))]))
          by_cases hc38 : (f11 (own_s1 i1 i2 i3 i4 i5) (own_s2 i1 i2 i3 i4 i5) (own_s3 i1 i2 i3 i4 i5) (own_s4 i1 i2 i3 i4 i5)) = (1 : Int32)
          · refine own_go (fun _ k => XS.icmpNo X37.here hx rfl (hb hby at_193) rfl (XT.ii_ne_f hc38) k) ?_
            show own_Fin p.tables e below _ (T37.setTop (mkF m 196 #[.val (.int i1), .val (.int i2), .val (.int i3), .val (.int i4), .val (.int i5), .val (.ref a1), .val (.ref a5), .val (.ref a9), .val (.ref a15), .val (.ref a21), .val (.ref a23), .val (.int (1 : Int32))] []))
            refine own_go (fun _ k => XT.iconstV X37.here hx rfl (1 : Int32) (hb hby at_196) (by decide) k) ?_
            show own_Fin p.tables e below _ (T37.setTop (mkF m 197 #[.val (.int i1), .val (.int i2), .val (.int i3), .val (.int i4), .val (.int i5), .val (.ref a1), .val (.ref a5), .val (.ref a9), .val (.ref a15), .val (.ref a21), .val (.ref a23), .val (.int (1 : Int32))] [(.int (1 : Int32))]))
            refine own_go (fun _ k => XS.goto X37.here hx rfl (pc0 := 197) (pc' := 201) rfl (hb hby at_197) (by decide) (by decide) k) ?_
            show own_Fin p.tables e below _ (T37.setTop (mkF m 201 #[.val (.int i1), .val (.int i2), .val (.int i3), .val (.int i4), .val (.int i5), .val (.ref a1), .val (.ref a5), .val (.ref a9), .val (.ref a15), .val (.ref a21), .val (.ref a23), .val (.int (1 : Int32))] [(.int (1 : Int32))]))
            refine own_retNW X37 hx hlk hS37 (Nat.le_refl _) (t := .boolean) hret (by simp) (hb hby at_201) ?_ (by decide) (by decide)
            exact ⟨by rw [show f0 i1 i2 i3 i4 i5 = (1 : Int32) from by simp only [f0, if_pos hc26, if_neg hc28, if_pos hc32, if_neg hc34, if_pos hc38]] <;> rfl, N37⟩
          · refine own_go (fun _ k => XS.icmpYes X37.here hx rfl (pc0 := 193) (pc' := 200) rfl (hb hby at_193) rfl (XT.ii_ne_t hc38) (by decide) (by decide) k) ?_
            show own_Fin p.tables e below _ (T37.setTop (mkF m 200 #[.val (.int i1), .val (.int i2), .val (.int i3), .val (.int i4), .val (.int i5), .val (.ref a1), .val (.ref a5), .val (.ref a9), .val (.ref a15), .val (.ref a21), .val (.ref a23), .val (.int (1 : Int32))] []))
            refine own_go (fun _ k => XT.iconstV X37.here hx rfl (0 : Int32) (hb hby at_200) (by decide) k) ?_
            show own_Fin p.tables e below _ (T37.setTop (mkF m 201 #[.val (.int i1), .val (.int i2), .val (.int i3), .val (.int i4), .val (.int i5), .val (.ref a1), .val (.ref a5), .val (.ref a9), .val (.ref a15), .val (.ref a21), .val (.ref a23), .val (.int (1 : Int32))] [(.int (0 : Int32))]))
            refine own_retNW X37 hx hlk hS37 (Nat.le_refl _) (t := .boolean) hret (by simp) (hb hby at_201) ?_ (by decide) (by decide)
            exact ⟨by rw [show f0 i1 i2 i3 i4 i5 = (0 : Int32) from by simp only [f0, if_pos hc26, if_neg hc28, if_pos hc32, if_neg hc34, if_neg hc38]] <;> rfl, N37⟩
      · refine own_go (fun _ k => XS.ifYes X31.here hx rfl (pc0 := 164) (pc' := 177) rfl (hb hby at_164) rfl (XT.i0_ne_t hc32) (by decide) (by decide) k) ?_
        show own_Fin p.tables e below _ (T31.setTop (mkF m 177 #[.val (.int i1), .val (.int i2), .val (.int i3), .val (.int i4), .val (.int i5), .val (.ref a1), .val (.ref a5), .val (.ref a9), .val (.ref a15), .val (.ref a21), .val (.ref a23), .unset] []))
        refine own_go (fun _ k => XT.iconstV X31.here hx rfl (1 : Int32) (hb hby at_177) (by decide) k) ?_
        show own_Fin p.tables e below _ (T31.setTop (mkF m 178 #[.val (.int i1), .val (.int i2), .val (.int i3), .val (.int i4), .val (.int i5), .val (.ref a1), .val (.ref a5), .val (.ref a9), .val (.ref a15), .val (.ref a21), .val (.ref a23), .unset] [(.int (1 : Int32))]))
        refine own_go (fun _ k => XS.goto X31.here hx rfl (pc0 := 178) (pc' := 182) rfl (hb hby at_178) (by decide) (by decide) k) ?_
        show own_Fin p.tables e below _ (T31.setTop (mkF m 182 #[.val (.int i1), .val (.int i2), .val (.int i3), .val (.int i4), .val (.int i5), .val (.ref a1), .val (.ref a5), .val (.ref a9), .val (.ref a15), .val (.ref a21), .val (.ref a23), .unset] [(.int (1 : Int32))]))
        refine own_go (fun _ k => XS.istore X31.here hx rfl (hb hby at_182) rfl (l' := #[.val (.int i1), .val (.int i2), .val (.int i3), .val (.int i4), .val (.int i5), .val (.ref a1), .val (.ref a5), .val (.ref a9), .val (.ref a15), .val (.ref a21), .val (.ref a23), .val (.int (1 : Int32))]) rfl k) ?_
        show own_Fin p.tables e below _ (T31.setTop (mkF m 184 #[.val (.int i1), .val (.int i2), .val (.int i3), .val (.int i4), .val (.int i5), .val (.ref a1), .val (.ref a5), .val (.ref a9), .val (.ref a15), .val (.ref a21), .val (.ref a23), .val (.int (1 : Int32))] []))
        refine own_go (fun _ k => XS.aload X31.here hx rfl (hb hby at_184) rfl rfl k) ?_
        show own_Fin p.tables e below _ (T31.setTop (mkF m 186 #[.val (.int i1), .val (.int i2), .val (.int i3), .val (.int i4), .val (.int i5), .val (.ref a1), .val (.ref a5), .val (.ref a9), .val (.ref a15), .val (.ref a21), .val (.ref a23), .val (.int (1 : Int32))] [(.ref a21)]))
        refine own_go (fun _ k => XS.aload X31.here hx rfl (hb hby at_186) rfl rfl k) ?_
        show own_Fin p.tables e below _ (T31.setTop (mkF m 188 #[.val (.int i1), .val (.int i2), .val (.int i3), .val (.int i4), .val (.int i5), .val (.ref a1), .val (.ref a5), .val (.ref a9), .val (.ref a15), .val (.ref a21), .val (.ref a23), .val (.int (1 : Int32))] [(.ref a23), (.ref a21)]))
        obtain ⟨_, T39, L39, X39, hZ39, hS39, ho39, ⟨rfl, M39, KK39, LO39⟩, st39⟩ := own_callVW X31 hx hZ15 hS15 (by rw [e31]; exact (Nat.le_trans (Nat.le_trans (Nat.le_trans (Nat.le_trans (Nat.le_refl _) E21.1) KK22.1) E23.1) KK24.1)) ho15 (hw _ (List.mem_of_getElem? (i := 86) rfl)) (hw _ (List.mem_of_getElem? (i := 87) rfl)) (hw _ (List.mem_of_getElem? (i := 89) rfl)) (hw _ (List.mem_of_getElem? (i := 88) rfl)) (hw _ (List.mem_of_getElem? (i := 56) rfl)) (hw _ (List.mem_of_getElem? (i := 90) rfl)) (by decide) (W := 0) (rm11 l Z a0 hw [] a21 a23 T24.heap n0 (Nat.le_trans Z0 K24.1) (own_s1 i1 i2 i3 i4 i5) (own_s2 i1 i2 i3 i4 i5) (own_s3 i1 i2 i3 i4 i5) (own_s4 i1 i2 i3 i4 i5) a1 a5 a9 a15 (T1.heap.size) (T5.heap.size) (T9.heap.size) (T15.heap.size) Fa21_principalClass_24 Fa21_name_24 G24_principalClass G24_name Stra1_24 Stra5_24 Stra9_24 Stra15_24 ic SC hz O_24 hl0 hl1 hcw) (fun vm hv => own_LO.warm (LO_24.mono (Nat.le_trans (Nat.le_trans (Nat.le_trans (Nat.le_trans (Nat.le_refl _) E21.1) KK22.1) E23.1) KK24.1)) hv) (by decide) (by decide) e31 Ea21_24 (g := (mkF m 188 #[.val (.int i1), .val (.int i2), .val (.int i3), .val (.int i4), .val (.int i5), .val (.ref a1), .val (.ref a5), .val (.ref a9), .val (.ref a15), .val (.ref a21), .val (.ref a23), .val (.int (1 : Int32))] [(.ref a23), (.ref a21)])) rfl (by rw [hml]; rfl) (argsL := [(.ref a23)]) (rest := []) rfl (lenOf pd13 rfl) rfl (by show 2 * 0 + _ ≤ _; exact Nat.le_of_eq rfl) (hb hby at_188) (by decide) (by decide)
        have N39 := Fr.app N31 M39
        have Stra1_39 := Stra1_24.keep0 KK39
        have Stra5_39 := Stra5_24.keep0 KK39
        have Stra9_39 := Stra9_24.keep0 KK39
        have Stra15_39 := Stra15_24.keep0 KK39
        have O_39 := O_24.keep KK39 all0
        have Ea21_39 := Ea21_24.keep KK39
        have Fa21_principalClass_39 := Fa21_principalClass_24.keep KK39 nin0
        have Fa21_name_39 := Fa21_name_24.keep KK39 nin0
        have Ea23_39 := Ea23_24.keep KK39
        have Fa23_principalClass_39 := G24_principalClass.keep KK39 nin0
        have Fa23_name_39 := G24_name.keep KK39 nin0
        have K39 := K24.trans KK39 all0
        refine own_go st39 ?_
        show own_Fin p.tables e below _ (T39.setTop (mkF m 191 #[.val (.int i1), .val (.int i2), .val (.int i3), .val (.int i4), .val (.int i5), .val (.ref a1), .val (.ref a5), .val (.ref a9), .val (.ref a15), .val (.ref a21), .val (.ref a23), .val (.int (1 : Int32))] [(.int (f11 (own_s1 i1 i2 i3 i4 i5) (own_s2 i1 i2 i3 i4 i5) (own_s3 i1 i2 i3 i4 i5) (own_s4 i1 i2 i3 i4 i5)))]))
        refine own_go (fun _ k => XS.iload X39.here hx rfl (hb hby at_191) rfl k) ?_
        show own_Fin p.tables e below _ (T39.setTop (mkF m 193 #[.val (.int i1), .val (.int i2), .val (.int i3), .val (.int i4), .val (.int i5), .val (.ref a1), .val (.ref a5), .val (.ref a9), .val (.ref a15), .val (.ref a21), .val (.ref a23), .val (.int (1 : Int32))] [(.int (1 : Int32)), (.int (f11 (own_s1 i1 i2 i3 i4 i5) (own_s2 i1 i2 i3 i4 i5) (own_s3 i1 i2 i3 i4 i5) (own_s4 i1 i2 i3 i4 i5)))]))
        by_cases hc40 : (f11 (own_s1 i1 i2 i3 i4 i5) (own_s2 i1 i2 i3 i4 i5) (own_s3 i1 i2 i3 i4 i5) (own_s4 i1 i2 i3 i4 i5)) = (1 : Int32)
        · refine own_go (fun _ k => XS.icmpNo X39.here hx rfl (hb hby at_193) rfl (XT.ii_ne_f hc40) k) ?_
          show own_Fin p.tables e below _ (T39.setTop (mkF m 196 #[.val (.int i1), .val (.int i2), .val (.int i3), .val (.int i4), .val (.int i5), .val (.ref a1), .val (.ref a5), .val (.ref a9), .val (.ref a15), .val (.ref a21), .val (.ref a23), .val (.int (1 : Int32))] []))
          refine own_go (fun _ k => XT.iconstV X39.here hx rfl (1 : Int32) (hb hby at_196) (by decide) k) ?_
          show own_Fin p.tables e below _ (T39.setTop (mkF m 197 #[.val (.int i1), .val (.int i2), .val (.int i3), .val (.int i4), .val (.int i5), .val (.ref a1), .val (.ref a5), .val (.ref a9), .val (.ref a15), .val (.ref a21), .val (.ref a23), .val (.int (1 : Int32))] [(.int (1 : Int32))]))
          refine own_go (fun _ k => XS.goto X39.here hx rfl (pc0 := 197) (pc' := 201) rfl (hb hby at_197) (by decide) (by decide) k) ?_
          show own_Fin p.tables e below _ (T39.setTop (mkF m 201 #[.val (.int i1), .val (.int i2), .val (.int i3), .val (.int i4), .val (.int i5), .val (.ref a1), .val (.ref a5), .val (.ref a9), .val (.ref a15), .val (.ref a21), .val (.ref a23), .val (.int (1 : Int32))] [(.int (1 : Int32))]))
          refine own_retNW X39 hx hlk hS39 (Nat.le_refl _) (t := .boolean) hret (by simp) (hb hby at_201) ?_ (by decide) (by decide)
          exact ⟨by rw [show f0 i1 i2 i3 i4 i5 = (1 : Int32) from by simp only [f0, if_pos hc26, if_neg hc28, if_neg hc32, if_pos hc40]] <;> rfl, N39⟩
        · refine own_go (fun _ k => XS.icmpYes X39.here hx rfl (pc0 := 193) (pc' := 200) rfl (hb hby at_193) rfl (XT.ii_ne_t hc40) (by decide) (by decide) k) ?_
          show own_Fin p.tables e below _ (T39.setTop (mkF m 200 #[.val (.int i1), .val (.int i2), .val (.int i3), .val (.int i4), .val (.int i5), .val (.ref a1), .val (.ref a5), .val (.ref a9), .val (.ref a15), .val (.ref a21), .val (.ref a23), .val (.int (1 : Int32))] []))
          refine own_go (fun _ k => XT.iconstV X39.here hx rfl (0 : Int32) (hb hby at_200) (by decide) k) ?_
          show own_Fin p.tables e below _ (T39.setTop (mkF m 201 #[.val (.int i1), .val (.int i2), .val (.int i3), .val (.int i4), .val (.int i5), .val (.ref a1), .val (.ref a5), .val (.ref a9), .val (.ref a15), .val (.ref a21), .val (.ref a23), .val (.int (1 : Int32))] [(.int (0 : Int32))]))
          refine own_retNW X39 hx hlk hS39 (Nat.le_refl _) (t := .boolean) hret (by simp) (hb hby at_201) ?_ (by decide) (by decide)
          exact ⟨by rw [show f0 i1 i2 i3 i4 i5 = (0 : Int32) from by simp only [f0, if_pos hc26, if_neg hc28, if_neg hc32, if_neg hc40]] <;> rfl, N39⟩
  · refine own_go (fun _ k => XS.ifYes X25.here hx rfl (pc0 := 146) (pc' := 159) rfl (hb hby at_146) rfl (XT.i0_ne_t hc26) (by decide) (by decide) k) ?_
    show own_Fin p.tables e below _ (T25.setTop (mkF m 159 #[.val (.int i1), .val (.int i2), .val (.int i3), .val (.int i4), .val (.int i5), .val (.ref a1), .val (.ref a5), .val (.ref a9), .val (.ref a15), .val (.ref a21), .val (.ref a23), .unset] []))
    refine own_go (fun _ k => XS.aload X25.here hx rfl (hb hby at_159) rfl rfl k) ?_
    show own_Fin p.tables e below _ (T25.setTop (mkF m 161 #[.val (.int i1), .val (.int i2), .val (.int i3), .val (.int i4), .val (.int i5), .val (.ref a1), .val (.ref a5), .val (.ref a9), .val (.ref a15), .val (.ref a21), .val (.ref a23), .unset] [(.ref a5)]))
    obtain ⟨_, T41, L41, X41, ⟨rfl, M41, e41⟩, st41⟩ := own_callS X25 hx hZ15 ho15 (hw _ (List.mem_of_getElem? (i := 70) rfl)) (hw _ (List.mem_of_getElem? (i := 71) rfl)) (hw _ (List.mem_of_getElem? (i := 2) rfl)) (hw _ (List.mem_of_getElem? (i := 72) rfl)) (by decide) (W := 0) (rm6 l Z a0 hw [] a5 T24.heap n0 (Nat.le_trans Z0 K24.1) (own_s2 i1 i2 i3 i4 i5) (T5.heap.size) Stra5_24 ic SC hz O_24 fm SF rf) (by decide) (by decide) e25 (g := (mkF m 161 #[.val (.int i1), .val (.int i2), .val (.int i3), .val (.int i4), .val (.int i5), .val (.ref a1), .val (.ref a5), .val (.ref a9), .val (.ref a15), .val (.ref a21), .val (.ref a23), .unset] [(.ref a5)])) rfl (by rw [hml]; rfl) (argsL := [(.ref a5)]) (rest := []) rfl (lenOf pd6 rfl) rfl (by show 2 * 0 + _ ≤ _; exact Nat.le_of_eq rfl) (hb hby at_161) (by decide) (by decide)
    have N41 := Fr.app N25 M41
    refine own_go st41 ?_
    show own_Fin p.tables e below _ (T41.setTop (mkF m 164 #[.val (.int i1), .val (.int i2), .val (.int i3), .val (.int i4), .val (.int i5), .val (.ref a1), .val (.ref a5), .val (.ref a9), .val (.ref a15), .val (.ref a21), .val (.ref a23), .unset] [(.int (f6 (own_s2 i1 i2 i3 i4 i5)))]))
    by_cases hc42 : (f6 (own_s2 i1 i2 i3 i4 i5)) = (0 : Int32)
    · refine own_go (fun _ k => XS.ifNo X41.here hx rfl (hb hby at_164) rfl (XT.i0_ne_f hc42) k) ?_
      show own_Fin p.tables e below _ (T41.setTop (mkF m 167 #[.val (.int i1), .val (.int i2), .val (.int i3), .val (.int i4), .val (.int i5), .val (.ref a1), .val (.ref a5), .val (.ref a9), .val (.ref a15), .val (.ref a21), .val (.ref a23), .unset] []))
      refine own_go (fun _ k => XS.aload X41.here hx rfl (hb hby at_167) rfl rfl k) ?_
      show own_Fin p.tables e below _ (T41.setTop (mkF m 169 #[.val (.int i1), .val (.int i2), .val (.int i3), .val (.int i4), .val (.int i5), .val (.ref a1), .val (.ref a5), .val (.ref a9), .val (.ref a15), .val (.ref a21), .val (.ref a23), .unset] [(.ref a5)]))
      refine own_go (fun _ k => XS.aload X41.here hx rfl (hb hby at_169) rfl rfl k) ?_
      show own_Fin p.tables e below _ (T41.setTop (mkF m 171 #[.val (.int i1), .val (.int i2), .val (.int i3), .val (.int i4), .val (.int i5), .val (.ref a1), .val (.ref a5), .val (.ref a9), .val (.ref a15), .val (.ref a21), .val (.ref a23), .unset] [(.ref a15), (.ref a5)]))
      obtain ⟨_, T43, L43, X43, ⟨rfl, M43, e43⟩, st43⟩ := own_callS X41 hx hZ15 ho15 (hw _ (List.mem_of_getElem? (i := 83) rfl)) (hw _ (List.mem_of_getElem? (i := 84) rfl)) (hw _ (List.mem_of_getElem? (i := 2) rfl)) (hw _ (List.mem_of_getElem? (i := 85) rfl)) (by decide) (W := 0) (rm7 l Z a0 hw [] a5 a15 T24.heap n0 (Nat.le_trans Z0 K24.1) (own_s2 i1 i2 i3 i4 i5) (own_s4 i1 i2 i3 i4 i5) (T5.heap.size) (T15.heap.size) Stra5_24 Stra15_24 ic SC hz O_24 fm SF rf) (by decide) (by decide) e41 (g := (mkF m 171 #[.val (.int i1), .val (.int i2), .val (.int i3), .val (.int i4), .val (.int i5), .val (.ref a1), .val (.ref a5), .val (.ref a9), .val (.ref a15), .val (.ref a21), .val (.ref a23), .unset] [(.ref a15), (.ref a5)])) rfl (by rw [hml]; rfl) (argsL := [(.ref a5), (.ref a15)]) (rest := []) rfl (lenOf pd7 rfl) rfl (by show 2 * 0 + _ ≤ _; exact Nat.le_of_eq rfl) (hb hby at_171) (by decide) (by decide)
      have N43 := Fr.app N41 M43
      refine own_go st43 ?_
      show own_Fin p.tables e below _ (T43.setTop (mkF m 174 #[.val (.int i1), .val (.int i2), .val (.int i3), .val (.int i4), .val (.int i5), .val (.ref a1), .val (.ref a5), .val (.ref a9), .val (.ref a15), .val (.ref a21), .val (.ref a23), .unset] [(.int (f7 (own_s2 i1 i2 i3 i4 i5) (own_s4 i1 i2 i3 i4 i5)))]))
      by_cases hc44 : (f7 (own_s2 i1 i2 i3 i4 i5) (own_s4 i1 i2 i3 i4 i5)) = (0 : Int32)
      · refine own_go (fun _ k => XS.ifYes X43.here hx rfl (pc0 := 174) (pc' := 181) rfl (hb hby at_174) rfl (XT.i0_eq_t hc44) (by decide) (by decide) k) ?_
        show own_Fin p.tables e below _ (T43.setTop (mkF m 181 #[.val (.int i1), .val (.int i2), .val (.int i3), .val (.int i4), .val (.int i5), .val (.ref a1), .val (.ref a5), .val (.ref a9), .val (.ref a15), .val (.ref a21), .val (.ref a23), .unset] []))
        refine own_go (fun _ k => XT.iconstV X43.here hx rfl (0 : Int32) (hb hby at_181) (by decide) k) ?_
        show own_Fin p.tables e below _ (T43.setTop (mkF m 182 #[.val (.int i1), .val (.int i2), .val (.int i3), .val (.int i4), .val (.int i5), .val (.ref a1), .val (.ref a5), .val (.ref a9), .val (.ref a15), .val (.ref a21), .val (.ref a23), .unset] [(.int (0 : Int32))]))
        refine own_go (fun _ k => XS.istore X43.here hx rfl (hb hby at_182) rfl (l' := #[.val (.int i1), .val (.int i2), .val (.int i3), .val (.int i4), .val (.int i5), .val (.ref a1), .val (.ref a5), .val (.ref a9), .val (.ref a15), .val (.ref a21), .val (.ref a23), .val (.int (0 : Int32))]) rfl k) ?_
        show own_Fin p.tables e below _ (T43.setTop (mkF m 184 #[.val (.int i1), .val (.int i2), .val (.int i3), .val (.int i4), .val (.int i5), .val (.ref a1), .val (.ref a5), .val (.ref a9), .val (.ref a15), .val (.ref a21), .val (.ref a23), .val (.int (0 : Int32))] []))
        refine own_go (fun _ k => XS.aload X43.here hx rfl (hb hby at_184) rfl rfl k) ?_
        show own_Fin p.tables e below _ (T43.setTop (mkF m 186 #[.val (.int i1), .val (.int i2), .val (.int i3), .val (.int i4), .val (.int i5), .val (.ref a1), .val (.ref a5), .val (.ref a9), .val (.ref a15), .val (.ref a21), .val (.ref a23), .val (.int (0 : Int32))] [(.ref a21)]))
        refine own_go (fun _ k => XS.aload X43.here hx rfl (hb hby at_186) rfl rfl k) ?_
        show own_Fin p.tables e below _ (T43.setTop (mkF m 188 #[.val (.int i1), .val (.int i2), .val (.int i3), .val (.int i4), .val (.int i5), .val (.ref a1), .val (.ref a5), .val (.ref a9), .val (.ref a15), .val (.ref a21), .val (.ref a23), .val (.int (0 : Int32))] [(.ref a23), (.ref a21)]))
        obtain ⟨_, T45, L45, X45, hZ45, hS45, ho45, ⟨rfl, M45, KK45, LO45⟩, st45⟩ := own_callVW X43 hx hZ15 hS15 (by rw [e43]; exact (Nat.le_trans (Nat.le_trans (Nat.le_trans (Nat.le_trans (Nat.le_refl _) E21.1) KK22.1) E23.1) KK24.1)) ho15 (hw _ (List.mem_of_getElem? (i := 86) rfl)) (hw _ (List.mem_of_getElem? (i := 87) rfl)) (hw _ (List.mem_of_getElem? (i := 89) rfl)) (hw _ (List.mem_of_getElem? (i := 88) rfl)) (hw _ (List.mem_of_getElem? (i := 56) rfl)) (hw _ (List.mem_of_getElem? (i := 90) rfl)) (by decide) (W := 0) (rm11 l Z a0 hw [] a21 a23 T24.heap n0 (Nat.le_trans Z0 K24.1) (own_s1 i1 i2 i3 i4 i5) (own_s2 i1 i2 i3 i4 i5) (own_s3 i1 i2 i3 i4 i5) (own_s4 i1 i2 i3 i4 i5) a1 a5 a9 a15 (T1.heap.size) (T5.heap.size) (T9.heap.size) (T15.heap.size) Fa21_principalClass_24 Fa21_name_24 G24_principalClass G24_name Stra1_24 Stra5_24 Stra9_24 Stra15_24 ic SC hz O_24 hl0 hl1 hcw) (fun vm hv => own_LO.warm (LO_24.mono (Nat.le_trans (Nat.le_trans (Nat.le_trans (Nat.le_trans (Nat.le_refl _) E21.1) KK22.1) E23.1) KK24.1)) hv) (by decide) (by decide) e43 Ea21_24 (g := (mkF m 188 #[.val (.int i1), .val (.int i2), .val (.int i3), .val (.int i4), .val (.int i5), .val (.ref a1), .val (.ref a5), .val (.ref a9), .val (.ref a15), .val (.ref a21), .val (.ref a23), .val (.int (0 : Int32))] [(.ref a23), (.ref a21)])) rfl (by rw [hml]; rfl) (argsL := [(.ref a23)]) (rest := []) rfl (lenOf pd13 rfl) rfl (by show 2 * 0 + _ ≤ _; exact Nat.le_of_eq rfl) (hb hby at_188) (by decide) (by decide)
        have N45 := Fr.app N43 M45
        have Stra1_45 := Stra1_24.keep0 KK45
        have Stra5_45 := Stra5_24.keep0 KK45
        have Stra9_45 := Stra9_24.keep0 KK45
        have Stra15_45 := Stra15_24.keep0 KK45
        have O_45 := O_24.keep KK45 all0
        have Ea21_45 := Ea21_24.keep KK45
        have Fa21_principalClass_45 := Fa21_principalClass_24.keep KK45 nin0
        have Fa21_name_45 := Fa21_name_24.keep KK45 nin0
        have Ea23_45 := Ea23_24.keep KK45
        have Fa23_principalClass_45 := G24_principalClass.keep KK45 nin0
        have Fa23_name_45 := G24_name.keep KK45 nin0
        have K45 := K24.trans KK45 all0
        refine own_go st45 ?_
        show own_Fin p.tables e below _ (T45.setTop (mkF m 191 #[.val (.int i1), .val (.int i2), .val (.int i3), .val (.int i4), .val (.int i5), .val (.ref a1), .val (.ref a5), .val (.ref a9), .val (.ref a15), .val (.ref a21), .val (.ref a23), .val (.int (0 : Int32))] [(.int (f11 (own_s1 i1 i2 i3 i4 i5) (own_s2 i1 i2 i3 i4 i5) (own_s3 i1 i2 i3 i4 i5) (own_s4 i1 i2 i3 i4 i5)))]))
        refine own_go (fun _ k => XS.iload X45.here hx rfl (hb hby at_191) rfl k) ?_
        show own_Fin p.tables e below _ (T45.setTop (mkF m 193 #[.val (.int i1), .val (.int i2), .val (.int i3), .val (.int i4), .val (.int i5), .val (.ref a1), .val (.ref a5), .val (.ref a9), .val (.ref a15), .val (.ref a21), .val (.ref a23), .val (.int (0 : Int32))] [(.int (0 : Int32)), (.int (f11 (own_s1 i1 i2 i3 i4 i5) (own_s2 i1 i2 i3 i4 i5) (own_s3 i1 i2 i3 i4 i5) (own_s4 i1 i2 i3 i4 i5)))]))
        by_cases hc46 : (f11 (own_s1 i1 i2 i3 i4 i5) (own_s2 i1 i2 i3 i4 i5) (own_s3 i1 i2 i3 i4 i5) (own_s4 i1 i2 i3 i4 i5)) = (0 : Int32)
        · refine own_go (fun _ k => XS.icmpNo X45.here hx rfl (hb hby at_193) rfl (XT.ii_ne_f hc46) k) ?_
          show own_Fin p.tables e below _ (T45.setTop (mkF m 196 #[.val (.int i1), .val (.int i2), .val (.int i3), .val (.int i4), .val (.int i5), .val (.ref a1), .val (.ref a5), .val (.ref a9), .val (.ref a15), .val (.ref a21), .val (.ref a23), .val (.int (0 : Int32))] []))
          refine own_go (fun _ k => XT.iconstV X45.here hx rfl (1 : Int32) (hb hby at_196) (by decide) k) ?_
          show own_Fin p.tables e below _ (T45.setTop (mkF m 197 #[.val (.int i1), .val (.int i2), .val (.int i3), .val (.int i4), .val (.int i5), .val (.ref a1), .val (.ref a5), .val (.ref a9), .val (.ref a15), .val (.ref a21), .val (.ref a23), .val (.int (0 : Int32))] [(.int (1 : Int32))]))
          refine own_go (fun _ k => XS.goto X45.here hx rfl (pc0 := 197) (pc' := 201) rfl (hb hby at_197) (by decide) (by decide) k) ?_
          show own_Fin p.tables e below _ (T45.setTop (mkF m 201 #[.val (.int i1), .val (.int i2), .val (.int i3), .val (.int i4), .val (.int i5), .val (.ref a1), .val (.ref a5), .val (.ref a9), .val (.ref a15), .val (.ref a21), .val (.ref a23), .val (.int (0 : Int32))] [(.int (1 : Int32))]))
          refine own_retNW X45 hx hlk hS45 (Nat.le_refl _) (t := .boolean) hret (by simp) (hb hby at_201) ?_ (by decide) (by decide)
          exact ⟨by rw [show f0 i1 i2 i3 i4 i5 = (1 : Int32) from by simp only [f0, if_neg hc26, if_pos hc42, if_pos hc44, if_pos hc46]] <;> rfl, N45⟩
        · refine own_go (fun _ k => XS.icmpYes X45.here hx rfl (pc0 := 193) (pc' := 200) rfl (hb hby at_193) rfl (XT.ii_ne_t hc46) (by decide) (by decide) k) ?_
          show own_Fin p.tables e below _ (T45.setTop (mkF m 200 #[.val (.int i1), .val (.int i2), .val (.int i3), .val (.int i4), .val (.int i5), .val (.ref a1), .val (.ref a5), .val (.ref a9), .val (.ref a15), .val (.ref a21), .val (.ref a23), .val (.int (0 : Int32))] []))
          refine own_go (fun _ k => XT.iconstV X45.here hx rfl (0 : Int32) (hb hby at_200) (by decide) k) ?_
          show own_Fin p.tables e below _ (T45.setTop (mkF m 201 #[.val (.int i1), .val (.int i2), .val (.int i3), .val (.int i4), .val (.int i5), .val (.ref a1), .val (.ref a5), .val (.ref a9), .val (.ref a15), .val (.ref a21), .val (.ref a23), .val (.int (0 : Int32))] [(.int (0 : Int32))]))
          refine own_retNW X45 hx hlk hS45 (Nat.le_refl _) (t := .boolean) hret (by simp) (hb hby at_201) ?_ (by decide) (by decide)
          exact ⟨by rw [show f0 i1 i2 i3 i4 i5 = (0 : Int32) from by simp only [f0, if_neg hc26, if_pos hc42, if_pos hc44, if_neg hc46]] <;> rfl, N45⟩
      · refine own_go (fun _ k => XS.ifNo X43.here hx rfl (hb hby at_174) rfl (XT.i0_eq_f hc44) k) ?_
        show own_Fin p.tables e below _ (T43.setTop (mkF m 177 #[.val (.int i1), .val (.int i2), .val (.int i3), .val (.int i4), .val (.int i5), .val (.ref a1), .val (.ref a5), .val (.ref a9), .val (.ref a15), .val (.ref a21), .val (.ref a23), .unset] []))
        refine own_go (fun _ k => XT.iconstV X43.here hx rfl (1 : Int32) (hb hby at_177) (by decide) k) ?_
        show own_Fin p.tables e below _ (T43.setTop (mkF m 178 #[.val (.int i1), .val (.int i2), .val (.int i3), .val (.int i4), .val (.int i5), .val (.ref a1), .val (.ref a5), .val (.ref a9), .val (.ref a15), .val (.ref a21), .val (.ref a23), .unset] [(.int (1 : Int32))]))
        refine own_go (fun _ k => XS.goto X43.here hx rfl (pc0 := 178) (pc' := 182) rfl (hb hby at_178) (by decide) (by decide) k) ?_
        show own_Fin p.tables e below _ (T43.setTop (mkF m 182 #[.val (.int i1), .val (.int i2), .val (.int i3), .val (.int i4), .val (.int i5), .val (.ref a1), .val (.ref a5), .val (.ref a9), .val (.ref a15), .val (.ref a21), .val (.ref a23), .unset] [(.int (1 : Int32))]))
        refine own_go (fun _ k => XS.istore X43.here hx rfl (hb hby at_182) rfl (l' := #[.val (.int i1), .val (.int i2), .val (.int i3), .val (.int i4), .val (.int i5), .val (.ref a1), .val (.ref a5), .val (.ref a9), .val (.ref a15), .val (.ref a21), .val (.ref a23), .val (.int (1 : Int32))]) rfl k) ?_
        show own_Fin p.tables e below _ (T43.setTop (mkF m 184 #[.val (.int i1), .val (.int i2), .val (.int i3), .val (.int i4), .val (.int i5), .val (.ref a1), .val (.ref a5), .val (.ref a9), .val (.ref a15), .val (.ref a21), .val (.ref a23), .val (.int (1 : Int32))] []))
        refine own_go (fun _ k => XS.aload X43.here hx rfl (hb hby at_184) rfl rfl k) ?_
        show own_Fin p.tables e below _ (T43.setTop (mkF m 186 #[.val (.int i1), .val (.int i2), .val (.int i3), .val (.int i4), .val (.int i5), .val (.ref a1), .val (.ref a5), .val (.ref a9), .val (.ref a15), .val (.ref a21), .val (.ref a23), .val (.int (1 : Int32))] [(.ref a21)]))
        refine own_go (fun _ k => XS.aload X43.here hx rfl (hb hby at_186) rfl rfl k) ?_
        show own_Fin p.tables e below _ (T43.setTop (mkF m 188 #[.val (.int i1), .val (.int i2), .val (.int i3), .val (.int i4), .val (.int i5), .val (.ref a1), .val (.ref a5), .val (.ref a9), .val (.ref a15), .val (.ref a21), .val (.ref a23), .val (.int (1 : Int32))] [(.ref a23), (.ref a21)]))
        obtain ⟨_, T47, L47, X47, hZ47, hS47, ho47, ⟨rfl, M47, KK47, LO47⟩, st47⟩ := own_callVW X43 hx hZ15 hS15 (by rw [e43]; exact (Nat.le_trans (Nat.le_trans (Nat.le_trans (Nat.le_trans (Nat.le_refl _) E21.1) KK22.1) E23.1) KK24.1)) ho15 (hw _ (List.mem_of_getElem? (i := 86) rfl)) (hw _ (List.mem_of_getElem? (i := 87) rfl)) (hw _ (List.mem_of_getElem? (i := 89) rfl)) (hw _ (List.mem_of_getElem? (i := 88) rfl)) (hw _ (List.mem_of_getElem? (i := 56) rfl)) (hw _ (List.mem_of_getElem? (i := 90) rfl)) (by decide) (W := 0) (rm11 l Z a0 hw [] a21 a23 T24.heap n0 (Nat.le_trans Z0 K24.1) (own_s1 i1 i2 i3 i4 i5) (own_s2 i1 i2 i3 i4 i5) (own_s3 i1 i2 i3 i4 i5) (own_s4 i1 i2 i3 i4 i5) a1 a5 a9 a15 (T1.heap.size) (T5.heap.size) (T9.heap.size) (T15.heap.size) Fa21_principalClass_24 Fa21_name_24 G24_principalClass G24_name Stra1_24 Stra5_24 Stra9_24 Stra15_24 ic SC hz O_24 hl0 hl1 hcw) (fun vm hv => own_LO.warm (LO_24.mono (Nat.le_trans (Nat.le_trans (Nat.le_trans (Nat.le_trans (Nat.le_refl _) E21.1) KK22.1) E23.1) KK24.1)) hv) (by decide) (by decide) e43 Ea21_24 (g := (mkF m 188 #[.val (.int i1), .val (.int i2), .val (.int i3), .val (.int i4), .val (.int i5), .val (.ref a1), .val (.ref a5), .val (.ref a9), .val (.ref a15), .val (.ref a21), .val (.ref a23), .val (.int (1 : Int32))] [(.ref a23), (.ref a21)])) rfl (by rw [hml]; rfl) (argsL := [(.ref a23)]) (rest := []) rfl (lenOf pd13 rfl) rfl (by show 2 * 0 + _ ≤ _; exact Nat.le_of_eq rfl) (hb hby at_188) (by decide) (by decide)
        have N47 := Fr.app N43 M47
        have Stra1_47 := Stra1_24.keep0 KK47
        have Stra5_47 := Stra5_24.keep0 KK47
        have Stra9_47 := Stra9_24.keep0 KK47
        have Stra15_47 := Stra15_24.keep0 KK47
        have O_47 := O_24.keep KK47 all0
        have Ea21_47 := Ea21_24.keep KK47
        have Fa21_principalClass_47 := Fa21_principalClass_24.keep KK47 nin0
        have Fa21_name_47 := Fa21_name_24.keep KK47 nin0
        have Ea23_47 := Ea23_24.keep KK47
        have Fa23_principalClass_47 := G24_principalClass.keep KK47 nin0
        have Fa23_name_47 := G24_name.keep KK47 nin0
        have K47 := K24.trans KK47 all0
        refine own_go st47 ?_
        show own_Fin p.tables e below _ (T47.setTop (mkF m 191 #[.val (.int i1), .val (.int i2), .val (.int i3), .val (.int i4), .val (.int i5), .val (.ref a1), .val (.ref a5), .val (.ref a9), .val (.ref a15), .val (.ref a21), .val (.ref a23), .val (.int (1 : Int32))] [(.int (f11 (own_s1 i1 i2 i3 i4 i5) (own_s2 i1 i2 i3 i4 i5) (own_s3 i1 i2 i3 i4 i5) (own_s4 i1 i2 i3 i4 i5)))]))
        refine own_go (fun _ k => XS.iload X47.here hx rfl (hb hby at_191) rfl k) ?_
        show own_Fin p.tables e below _ (T47.setTop (mkF m 193 #[.val (.int i1), .val (.int i2), .val (.int i3), .val (.int i4), .val (.int i5), .val (.ref a1), .val (.ref a5), .val (.ref a9), .val (.ref a15), .val (.ref a21), .val (.ref a23), .val (.int (1 : Int32))] [(.int (1 : Int32)), (.int (f11 (own_s1 i1 i2 i3 i4 i5) (own_s2 i1 i2 i3 i4 i5) (own_s3 i1 i2 i3 i4 i5) (own_s4 i1 i2 i3 i4 i5)))]))
        by_cases hc48 : (f11 (own_s1 i1 i2 i3 i4 i5) (own_s2 i1 i2 i3 i4 i5) (own_s3 i1 i2 i3 i4 i5) (own_s4 i1 i2 i3 i4 i5)) = (1 : Int32)
        · refine own_go (fun _ k => XS.icmpNo X47.here hx rfl (hb hby at_193) rfl (XT.ii_ne_f hc48) k) ?_
          show own_Fin p.tables e below _ (T47.setTop (mkF m 196 #[.val (.int i1), .val (.int i2), .val (.int i3), .val (.int i4), .val (.int i5), .val (.ref a1), .val (.ref a5), .val (.ref a9), .val (.ref a15), .val (.ref a21), .val (.ref a23), .val (.int (1 : Int32))] []))
          refine own_go (fun _ k => XT.iconstV X47.here hx rfl (1 : Int32) (hb hby at_196) (by decide) k) ?_
          show own_Fin p.tables e below _ (T47.setTop (mkF m 197 #[.val (.int i1), .val (.int i2), .val (.int i3), .val (.int i4), .val (.int i5), .val (.ref a1), .val (.ref a5), .val (.ref a9), .val (.ref a15), .val (.ref a21), .val (.ref a23), .val (.int (1 : Int32))] [(.int (1 : Int32))]))
          refine own_go (fun _ k => XS.goto X47.here hx rfl (pc0 := 197) (pc' := 201) rfl (hb hby at_197) (by decide) (by decide) k) ?_
          show own_Fin p.tables e below _ (T47.setTop (mkF m 201 #[.val (.int i1), .val (.int i2), .val (.int i3), .val (.int i4), .val (.int i5), .val (.ref a1), .val (.ref a5), .val (.ref a9), .val (.ref a15), .val (.ref a21), .val (.ref a23), .val (.int (1 : Int32))] [(.int (1 : Int32))]))
          refine own_retNW X47 hx hlk hS47 (Nat.le_refl _) (t := .boolean) hret (by simp) (hb hby at_201) ?_ (by decide) (by decide)
          exact ⟨by rw [show f0 i1 i2 i3 i4 i5 = (1 : Int32) from by simp only [f0, if_neg hc26, if_pos hc42, if_neg hc44, if_pos hc48]] <;> rfl, N47⟩
        · refine own_go (fun _ k => XS.icmpYes X47.here hx rfl (pc0 := 193) (pc' := 200) rfl (hb hby at_193) rfl (XT.ii_ne_t hc48) (by decide) (by decide) k) ?_
          show own_Fin p.tables e below _ (T47.setTop (mkF m 200 #[.val (.int i1), .val (.int i2), .val (.int i3), .val (.int i4), .val (.int i5), .val (.ref a1), .val (.ref a5), .val (.ref a9), .val (.ref a15), .val (.ref a21), .val (.ref a23), .val (.int (1 : Int32))] []))
          refine own_go (fun _ k => XT.iconstV X47.here hx rfl (0 : Int32) (hb hby at_200) (by decide) k) ?_
          show own_Fin p.tables e below _ (T47.setTop (mkF m 201 #[.val (.int i1), .val (.int i2), .val (.int i3), .val (.int i4), .val (.int i5), .val (.ref a1), .val (.ref a5), .val (.ref a9), .val (.ref a15), .val (.ref a21), .val (.ref a23), .val (.int (1 : Int32))] [(.int (0 : Int32))]))
          refine own_retNW X47 hx hlk hS47 (Nat.le_refl _) (t := .boolean) hret (by simp) (hb hby at_201) ?_ (by decide) (by decide)
          exact ⟨by rw [show f0 i1 i2 i3 i4 i5 = (0 : Int32) from by simp only [f0, if_neg hc26, if_pos hc42, if_neg hc44, if_neg hc48]] <;> rfl, N47⟩
    · refine own_go (fun _ k => XS.ifYes X41.here hx rfl (pc0 := 164) (pc' := 177) rfl (hb hby at_164) rfl (XT.i0_ne_t hc42) (by decide) (by decide) k) ?_
      show own_Fin p.tables e below _ (T41.setTop (mkF m 177 #[.val (.int i1), .val (.int i2), .val (.int i3), .val (.int i4), .val (.int i5), .val (.ref a1), .val (.ref a5), .val (.ref a9), .val (.ref a15), .val (.ref a21), .val (.ref a23), .unset] []))
      refine own_go (fun _ k => XT.iconstV X41.here hx rfl (1 : Int32) (hb hby at_177) (by decide) k) ?_
      show own_Fin p.tables e below _ (T41.setTop (mkF m 178 #[.val (.int i1), .val (.int i2), .val (.int i3), .val (.int i4), .val (.int i5), .val (.ref a1), .val (.ref a5), .val (.ref a9), .val (.ref a15), .val (.ref a21), .val (.ref a23), .unset] [(.int (1 : Int32))]))
      refine own_go (fun _ k => XS.goto X41.here hx rfl (pc0 := 178) (pc' := 182) rfl (hb hby at_178) (by decide) (by decide) k) ?_
      show own_Fin p.tables e below _ (T41.setTop (mkF m 182 #[.val (.int i1), .val (.int i2), .val (.int i3), .val (.int i4), .val (.int i5), .val (.ref a1), .val (.ref a5), .val (.ref a9), .val (.ref a15), .val (.ref a21), .val (.ref a23), .unset] [(.int (1 : Int32))]))
      refine own_go (fun _ k => XS.istore X41.here hx rfl (hb hby at_182) rfl (l' := #[.val (.int i1), .val (.int i2), .val (.int i3), .val (.int i4), .val (.int i5), .val (.ref a1), .val (.ref a5), .val (.ref a9), .val (.ref a15), .val (.ref a21), .val (.ref a23), .val (.int (1 : Int32))]) rfl k) ?_
      show own_Fin p.tables e below _ (T41.setTop (mkF m 184 #[.val (.int i1), .val (.int i2), .val (.int i3), .val (.int i4), .val (.int i5), .val (.ref a1), .val (.ref a5), .val (.ref a9), .val (.ref a15), .val (.ref a21), .val (.ref a23), .val (.int (1 : Int32))] []))
      refine own_go (fun _ k => XS.aload X41.here hx rfl (hb hby at_184) rfl rfl k) ?_
      show own_Fin p.tables e below _ (T41.setTop (mkF m 186 #[.val (.int i1), .val (.int i2), .val (.int i3), .val (.int i4), .val (.int i5), .val (.ref a1), .val (.ref a5), .val (.ref a9), .val (.ref a15), .val (.ref a21), .val (.ref a23), .val (.int (1 : Int32))] [(.ref a21)]))
      refine own_go (fun _ k => XS.aload X41.here hx rfl (hb hby at_186) rfl rfl k) ?_
      show own_Fin p.tables e below _ (T41.setTop (mkF m 188 #[.val (.int i1), .val (.int i2), .val (.int i3), .val (.int i4), .val (.int i5), .val (.ref a1), .val (.ref a5), .val (.ref a9), .val (.ref a15), .val (.ref a21), .val (.ref a23), .val (.int (1 : Int32))] [(.ref a23), (.ref a21)]))
      obtain ⟨_, T49, L49, X49, hZ49, hS49, ho49, ⟨rfl, M49, KK49, LO49⟩, st49⟩ := own_callVW X41 hx hZ15 hS15 (by rw [e41]; exact (Nat.le_trans (Nat.le_trans (Nat.le_trans (Nat.le_trans (Nat.le_refl _) E21.1) KK22.1) E23.1) KK24.1)) ho15 (hw _ (List.mem_of_getElem? (i := 86) rfl)) (hw _ (List.mem_of_getElem? (i := 87) rfl)) (hw _ (List.mem_of_getElem? (i := 89) rfl)) (hw _ (List.mem_of_getElem? (i := 88) rfl)) (hw _ (List.mem_of_getElem? (i := 56) rfl)) (hw _ (List.mem_of_getElem? (i := 90) rfl)) (by decide) (W := 0) (rm11 l Z a0 hw [] a21 a23 T24.heap n0 (Nat.le_trans Z0 K24.1) (own_s1 i1 i2 i3 i4 i5) (own_s2 i1 i2 i3 i4 i5) (own_s3 i1 i2 i3 i4 i5) (own_s4 i1 i2 i3 i4 i5) a1 a5 a9 a15 (T1.heap.size) (T5.heap.size) (T9.heap.size) (T15.heap.size) Fa21_principalClass_24 Fa21_name_24 G24_principalClass G24_name Stra1_24 Stra5_24 Stra9_24 Stra15_24 ic SC hz O_24 hl0 hl1 hcw) (fun vm hv => own_LO.warm (LO_24.mono (Nat.le_trans (Nat.le_trans (Nat.le_trans (Nat.le_trans (Nat.le_refl _) E21.1) KK22.1) E23.1) KK24.1)) hv) (by decide) (by decide) e41 Ea21_24 (g := (mkF m 188 #[.val (.int i1), .val (.int i2), .val (.int i3), .val (.int i4), .val (.int i5), .val (.ref a1), .val (.ref a5), .val (.ref a9), .val (.ref a15), .val (.ref a21), .val (.ref a23), .val (.int (1 : Int32))] [(.ref a23), (.ref a21)])) rfl (by rw [hml]; rfl) (argsL := [(.ref a23)]) (rest := []) rfl (lenOf pd13 rfl) rfl (by show 2 * 0 + _ ≤ _; exact Nat.le_of_eq rfl) (hb hby at_188) (by decide) (by decide)
      have N49 := Fr.app N41 M49
      have Stra1_49 := Stra1_24.keep0 KK49
      have Stra5_49 := Stra5_24.keep0 KK49
      have Stra9_49 := Stra9_24.keep0 KK49
      have Stra15_49 := Stra15_24.keep0 KK49
      have O_49 := O_24.keep KK49 all0
      have Ea21_49 := Ea21_24.keep KK49
      have Fa21_principalClass_49 := Fa21_principalClass_24.keep KK49 nin0
      have Fa21_name_49 := Fa21_name_24.keep KK49 nin0
      have Ea23_49 := Ea23_24.keep KK49
      have Fa23_principalClass_49 := G24_principalClass.keep KK49 nin0
      have Fa23_name_49 := G24_name.keep KK49 nin0
      have K49 := K24.trans KK49 all0
      refine own_go st49 ?_
      show own_Fin p.tables e below _ (T49.setTop (mkF m 191 #[.val (.int i1), .val (.int i2), .val (.int i3), .val (.int i4), .val (.int i5), .val (.ref a1), .val (.ref a5), .val (.ref a9), .val (.ref a15), .val (.ref a21), .val (.ref a23), .val (.int (1 : Int32))] [(.int (f11 (own_s1 i1 i2 i3 i4 i5) (own_s2 i1 i2 i3 i4 i5) (own_s3 i1 i2 i3 i4 i5) (own_s4 i1 i2 i3 i4 i5)))]))
      refine own_go (fun _ k => XS.iload X49.here hx rfl (hb hby at_191) rfl k) ?_
      show own_Fin p.tables e below _ (T49.setTop (mkF m 193 #[.val (.int i1), .val (.int i2), .val (.int i3), .val (.int i4), .val (.int i5), .val (.ref a1), .val (.ref a5), .val (.ref a9), .val (.ref a15), .val (.ref a21), .val (.ref a23), .val (.int (1 : Int32))] [(.int (1 : Int32)), (.int (f11 (own_s1 i1 i2 i3 i4 i5) (own_s2 i1 i2 i3 i4 i5) (own_s3 i1 i2 i3 i4 i5) (own_s4 i1 i2 i3 i4 i5)))]))
      by_cases hc50 : (f11 (own_s1 i1 i2 i3 i4 i5) (own_s2 i1 i2 i3 i4 i5) (own_s3 i1 i2 i3 i4 i5) (own_s4 i1 i2 i3 i4 i5)) = (1 : Int32)
      · refine own_go (fun _ k => XS.icmpNo X49.here hx rfl (hb hby at_193) rfl (XT.ii_ne_f hc50) k) ?_
        show own_Fin p.tables e below _ (T49.setTop (mkF m 196 #[.val (.int i1), .val (.int i2), .val (.int i3), .val (.int i4), .val (.int i5), .val (.ref a1), .val (.ref a5), .val (.ref a9), .val (.ref a15), .val (.ref a21), .val (.ref a23), .val (.int (1 : Int32))] []))
        refine own_go (fun _ k => XT.iconstV X49.here hx rfl (1 : Int32) (hb hby at_196) (by decide) k) ?_
        show own_Fin p.tables e below _ (T49.setTop (mkF m 197 #[.val (.int i1), .val (.int i2), .val (.int i3), .val (.int i4), .val (.int i5), .val (.ref a1), .val (.ref a5), .val (.ref a9), .val (.ref a15), .val (.ref a21), .val (.ref a23), .val (.int (1 : Int32))] [(.int (1 : Int32))]))
        refine own_go (fun _ k => XS.goto X49.here hx rfl (pc0 := 197) (pc' := 201) rfl (hb hby at_197) (by decide) (by decide) k) ?_
        show own_Fin p.tables e below _ (T49.setTop (mkF m 201 #[.val (.int i1), .val (.int i2), .val (.int i3), .val (.int i4), .val (.int i5), .val (.ref a1), .val (.ref a5), .val (.ref a9), .val (.ref a15), .val (.ref a21), .val (.ref a23), .val (.int (1 : Int32))] [(.int (1 : Int32))]))
        refine own_retNW X49 hx hlk hS49 (Nat.le_refl _) (t := .boolean) hret (by simp) (hb hby at_201) ?_ (by decide) (by decide)
        exact ⟨by rw [show f0 i1 i2 i3 i4 i5 = (1 : Int32) from by simp only [f0, if_neg hc26, if_neg hc42, if_pos hc50]] <;> rfl, N49⟩
      · refine own_go (fun _ k => XS.icmpYes X49.here hx rfl (pc0 := 193) (pc' := 200) rfl (hb hby at_193) rfl (XT.ii_ne_t hc50) (by decide) (by decide) k) ?_
        show own_Fin p.tables e below _ (T49.setTop (mkF m 200 #[.val (.int i1), .val (.int i2), .val (.int i3), .val (.int i4), .val (.int i5), .val (.ref a1), .val (.ref a5), .val (.ref a9), .val (.ref a15), .val (.ref a21), .val (.ref a23), .val (.int (1 : Int32))] []))
        refine own_go (fun _ k => XT.iconstV X49.here hx rfl (0 : Int32) (hb hby at_200) (by decide) k) ?_
        show own_Fin p.tables e below _ (T49.setTop (mkF m 201 #[.val (.int i1), .val (.int i2), .val (.int i3), .val (.int i4), .val (.int i5), .val (.ref a1), .val (.ref a5), .val (.ref a9), .val (.ref a15), .val (.ref a21), .val (.ref a23), .val (.int (1 : Int32))] [(.int (0 : Int32))]))
        refine own_retNW X49 hx hlk hS49 (Nat.le_refl _) (t := .boolean) hret (by simp) (hb hby at_201) ?_ (by decide) (by decide)
        exact ⟨by rw [show f0 i1 i2 i3 i4 i5 = (0 : Int32) from by simp only [f0, if_neg hc26, if_neg hc42, if_neg hc50]] <;> rfl, N49⟩
set_option maxRecDepth 65536 in
set_option maxHeartbeats 40000000 in
theorem comes_1 {Post : Tables → Env → Array Value → State → Outcome → State → Prop} (hpost : ∀ tb e args s v u, (limb_1_1.after args s (.returned v) u = true ∧ limb_1_2.after args s (.returned v) u = true ∧ True) → ReturnedEndW s (.returned v) u (Jvm.fieldLocs frame_1_writes args s ++ Jvm.arrayLocs frame_1_arrays args s ++ Jvm.staticLocs frame_1_statics s) 40 2240 → Post tb e args s (.returned v) u) :
    ArmFor flags0 classFile x code maxLocals ret World_1 tables_1 room_1 Calls_1 rest_1 Pre_1 Post := by
  intro l hfl _ _ p e ha hc hk s m args below hf hA hF happ hP
  obtain ⟨hcalls, hrest, hpre⟩ := hP
  obtain ⟨-, -, -, hnamed, -, -, -, hat⟩ := (Spec.applies_iff hf).mp happ
  obtain ⟨hg, hn⟩ := and_e (Cond.before_iff.mp (show (Jvm.Cond.and given_1 narrow_1).before args s = true from hpre))
  obtain ⟨hcount, hr0⟩ := and_e hg
  obtain ⟨hk0, hr1⟩ := and_e hr0
  obtain ⟨hk1, hr2⟩ := and_e hr1
  obtain ⟨hk2, hr3⟩ := and_e hr2
  obtain ⟨hk3, hr4⟩ := and_e hr3
  obtain ⟨w0, w1, w2, w3, w4, rfl⟩ : ∃ w0 w1 w2 w3 w4 : Value, args = #[w0, w1, w2, w3, w4] := by
    have hs : args.size = 5 := by simpa [Cond.value, given_1] using hcount
    obtain ⟨L⟩ := args
    match L, hs with
    | [w0, w1, w2, w3, w4], _ => exact ⟨w0, w1, w2, w3, w4, rfl⟩
  have hw := fun d (hd : d ∈ tables_1) => atoms_spec (ws := Jvm.Cond.code x code maxLocals ret :: tables_1) hat d (List.mem_cons_of_mem _ hd)
  obtain ⟨hsets, hown0⟩ := atoms_of _ (rest_1_c_eq ▸ (show rest_1_c.before _ s = true from hrest))
  obtain ⟨i0, ev0⟩ := is_v hk0
  obtain rfl : w0 = (.int i0) := Option.some.inj ev0
  obtain ⟨i1, ev1⟩ := is_v hk1
  obtain rfl : w1 = (.int i1) := Option.some.inj ev1
  obtain ⟨i2, ev2⟩ := is_v hk2
  obtain rfl : w2 = (.int i2) := Option.some.inj ev2
  obtain ⟨i3, ev3⟩ := is_v hk3
  obtain rfl : w3 = (.int i3) := Option.some.inj ev3
  obtain ⟨i4, ev4⟩ := is_v hr4
  obtain rfl : w4 = (.int i4) := Option.some.inj ev4
  obtain ⟨ic, evc⟩ := is_v (Cond.before_iff.mp (hsets _ (List.mem_of_getElem? (i := 1) rfl)))
  have SC : Sta s s.heap "java/lang/String" "COMPACT_STRINGS" "Z" (.int ic) := Sta.start evc (Or.inl (hsets _ (List.mem_of_getElem? (i := 0) rfl)))
  have hz : ¬ (ic = (0 : Int32)) := gotF (Cond.eq_ints evc (Term.int_eval (0))) (not_v (Cond.before_iff.mp (hsets _ (List.mem_of_getElem? (i := 2) rfl))))
  have hcw := hsets _ (List.mem_of_getElem? (i := 2) rfl)
  obtain ⟨fm, evf, rf⟩ := isR_v (Cond.before_iff.mp (hsets _ (List.mem_of_getElem? (i := 8) rfl)))
  have SF : Sta s s.heap "jdk/internal/util/Preconditions" "SIOOBE_FORMATTER" "Ljava/util/function/BiFunction;" fm := Sta.start evf (Or.inl (hsets _ (List.mem_of_getElem? (i := 7) rfl)))
  have hl0 : Jvm.Lit.constHeld s "com/example/grantline/grantline/eval/OwnerCoversPinLaw" 40 := hcalls.1 ("com/example/grantline/grantline/eval/OwnerCoversPinLaw", 40) (by decide)
  have hl1 : Jvm.Lit.constHeld s "com/example/grantline/grantline/eval/CredentialTarget$Owner" 18 := hcalls.1 ("com/example/grantline/grantline/eval/CredentialTarget$Owner", 18) (by decide)
  obtain ⟨n, o, h1, h2, h3, _, L, rfl, ⟨hv, N⟩, hq⟩ := rm0 l s _ hw tables_1 i0 i1 i2 i3 i4 s.heap s.heap.size (Nat.le_refl _) ic SC hz (Old.start s) hl0 hl1 hcw fm SF rf p e ha hc hk s m _ below hf ((Spec.applies_iff_loose hf).mp happ).1 ⟨rfl, State.Warmed39.refl s, rfl, ⟨[], IB.start, fun q _ => Or.inl (by simp)⟩⟩ trivial
  rw [own_law] at hv
  subst hv
  refine ⟨n, _, h1, h2, h3, hpost _ _ _ _ _ _ ⟨Cond.after_iff.mpr rfl, Cond.after_iff.mpr (eq_i res_at (Term.int_eval (1)) rfl), trivial⟩ ⟨hq.1, hq.2.1, hq.2.2.1, (hq.2.2.2.sift fun y hy => Or.inr (N y hy)).mono (by decide) (by decide)⟩⟩
theorem main_1_1 : Claimed_1_1 := comes_1 fun _ _ _ _ _ _ h hF => ⟨h.1, hF⟩
theorem main_1_2 : Claimed_1_2 := comes_1 fun _ _ _ _ _ _ h hF => ⟨h.2.1, hF⟩
end Jvm.Pilot.@@N@@
namespace Jvm.Pilot.@@N@@
open Jvm Jvm.ClassFile Sem Op Lib Jvm.Free Jvm.Stand Jvm.Pilot.@@N@@.Jvm.D
/-! MADE BY PROGRAM (witnessworld.py) out of the Statement's table words and the real class files: 21 classes; the members and pool entries that the words name. The judged class is class 1, her method 1. -/
namespace start1
open Jvm.ClassFile
def u (s : String) : CpInfo := .utf8 (stringToUtf16 s)
/-- a pool by its gaps: so many unusable entries, then the entry; so many at the end -/
def gap : Nat → List CpInfo → List CpInfo
  | 0, r => r
  | n + 1, r => .unusable :: gap n r
def poolList (es : List (Nat × CpInfo)) (last : Nat) : List CpInfo := es.foldr (fun e r => gap e.1 (e.2 :: r)) (gap last [])
def pool (es : List (Nat × CpInfo)) (last : Nat) : Array CpInfo := ⟨poolList es last⟩
def fileOf (pool : Array CpInfo) (this : Nat) (attrs : Array Attribute := #[]) (ms : Array MethodInfo := #[]) (fl : Nat := 33) (sup : Nat := 0) (ifs : Array Nat := #[]) (fds : Array FieldInfo := #[]) : ClassFile where
  minorVersion := 0
  majorVersion := 65
  constantPool := pool
  accessFlags := fl
  thisClass := this
  superClass := sup
  interfaces := ifs
  fields := fds
  methods := ms
  attributes := attrs
def plain (name : String) (sup : Option ClassId) : Class where
  name := name
  kind := .ordinary
  loader := none
  accessFlags := 33
  super := sup
  interfaces := #[]
  cf := none
  fields := #[]
  methods := #[]
  instanceTypes := #[]
  staticTypes := #[]
  resolved := #[]
  callSites := []
  init := .initialized
  statics := none
  mirror := none

def pool0 : Array CpInfo := pool [(5, u "<init>"), (0, u "()V"), (1, .class_ 10), (1, u "java/lang/Object")] 113

def k0c0 : Code := { maxStack := 0, maxLocals := 1, code := object_method_1_code, exceptionTable := #[], attributes := #[] }
def k0m0 : Method := { name := "<init>", desc := "()V", sig := { parameters := [], returnType := none }, accessFlags := 1, code := some k0c0 }
/-- java/lang/Object -/
def k0 : Class := { plain "java/lang/Object" none with
  accessFlags := 33
  interfaces := #[]
  cf := some (fileOf pool0 8 #[] #[{ accessFlags := 1, nameIndex := 5, descriptorIndex := 6, attributes := #[] }] 33 0 #[] #[])
  fields := #[]
  methods := #[k0m0]
  instanceTypes := #[]
  staticTypes := #[]
  resolved := Array.replicate 124 none
  statics := none }

def pool1 : Array CpInfo := pool [(2, .class_ 4), (1, u "java/lang/Object"), (0, u "<init>"), (0, u "()V"), (0, .methodref 8 9), (0, .class_ 10), (0, .nameAndType 11 12), (0, u "java/lang/String"), (0, u "valueOf"), (0, u "(C)Ljava/lang/String;"), (0, .methodref 14 15), (0, .class_ 16), (0, .nameAndType 17 18), (0, u "com/example/grantline/grantline/eval/OwnerCoversPinLaw"), (0, u "str"), (0, u "(I)Ljava/lang/String;"), (0, .class_ 20), (0, u "com/example/grantline/grantline/eval/CredentialTarget$Owner"), (0, .methodref 19 22), (0, .nameAndType 5 23), (0, u "(Ljava/lang/String;Ljava/lang/String;)V"), (0, .methodref 14 25), (0, .nameAndType 26 27), (0, u "isAny"), (0, u "(Ljava/lang/String;)Z"), (0, .methodref 14 29), (0, .nameAndType 30 31), (0, u "same"), (0, u "(Ljava/lang/String;Ljava/lang/String;)Z"), (0, .methodref 19 33), (0, .nameAndType 34 35), (0, u "covers"), (0, u "(Lcom/example/grantline/grantline/eval/CredentialTarget$Owner;)Z"), (0, .methodref 14 37), (0, .nameAndType 38 39), (0, u "ch"), (0, u "(I)C"), (0, .string 41), (0, u ""), (0, .methodref 8 43), (0, .nameAndType 5 44), (0, u "([C)V"), (0, .methodref 8 46), (0, .nameAndType 47 48), (0, u "length"), (0, u "()I"), (0, .methodref 8 50), (0, .nameAndType 51 39), (0, u "charAt"), (2, u "law"), (0, u "(IIIII)Z")] 7

def k1m0 : Method := { name := "<init>", desc := "()V", sig := { parameters := [], returnType := none }, accessFlags := 2, code := none }
def k1c1 : Code := { maxStack := 4, maxLocals := 12, code := code, exceptionTable := #[], attributes := #[] }
def k1m1 : Method := { name := "law", desc := "(IIIII)Z", sig := { parameters := [.int, .int, .int, .int, .int], returnType := some .boolean }, accessFlags := 9, code := some k1c1 }
def k1c2 : Code := { maxStack := 2, maxLocals := 2, code := method_3_code, exceptionTable := #[], attributes := #[] }
def k1m2 : Method := { name := "ch", desc := "(I)C", sig := { parameters := [.int], returnType := some .char }, accessFlags := 10, code := some k1c2 }
def k1c3 : Code := { maxStack := 6, maxLocals := 5, code := method_4_code, exceptionTable := #[], attributes := #[] }
def k1m3 : Method := { name := "str", desc := "(I)Ljava/lang/String;", sig := { parameters := [.int], returnType := some (.object "java/lang/String") }, accessFlags := 10, code := some k1c3 }
def k1c4 : Code := { maxStack := 2, maxLocals := 1, code := method_5_code, exceptionTable := #[], attributes := #[] }
def k1m4 : Method := { name := "isAny", desc := "(Ljava/lang/String;)Z", sig := { parameters := [(.object "java/lang/String")], returnType := some .boolean }, accessFlags := 10, code := some k1c4 }
def k1c5 : Code := { maxStack := 3, maxLocals := 3, code := method_6_code, exceptionTable := #[], attributes := #[] }
def k1m5 : Method := { name := "same", desc := "(Ljava/lang/String;Ljava/lang/String;)Z", sig := { parameters := [(.object "java/lang/String"), (.object "java/lang/String")], returnType := some .boolean }, accessFlags := 10, code := some k1c5 }
/-- com/example/grantline/grantline/eval/OwnerCoversPinLaw -/
def k1 : Class := { plain "com/example/grantline/grantline/eval/OwnerCoversPinLaw" (some 0) with
  accessFlags := 49
  interfaces := #[]
  cf := some (fileOf pool1 14 #[] #[{ accessFlags := 2, nameIndex := 5, descriptorIndex := 6, attributes := #[] }, { accessFlags := 9, nameIndex := 54, descriptorIndex := 55, attributes := #[] }, { accessFlags := 10, nameIndex := 38, descriptorIndex := 39, attributes := #[] }, { accessFlags := 10, nameIndex := 17, descriptorIndex := 18, attributes := #[] }, { accessFlags := 10, nameIndex := 26, descriptorIndex := 27, attributes := #[] }, { accessFlags := 10, nameIndex := 30, descriptorIndex := 31, attributes := #[] }] 49 2 #[] #[])
  fields := #[]
  methods := #[k1m0, k1m1, k1m2, k1m3, k1m4, k1m5]
  instanceTypes := #[]
  staticTypes := #[]
  resolved := Array.replicate 63 none
  statics := none }

def pool2 : Array CpInfo := pool [(1, .class_ 2), (0, u "java/io/Serializable"), (0, .class_ 4), (0, u "java/lang/Object")] 2

/-- java/io/Serializable -/
def k2 : Class := { plain "java/io/Serializable" (some 0) with
  accessFlags := 1537
  interfaces := #[]
  cf := some (fileOf pool2 1 #[] #[] 1537 3 #[] #[])
  fields := #[]
  methods := #[]
  instanceTypes := #[]
  staticTypes := #[]
  resolved := Array.replicate 7 none
  statics := none }

def pool3 : Array CpInfo := pool [(1, .class_ 2), (0, u "java/lang/Comparable"), (0, .class_ 4), (0, u "java/lang/Object")] 7

/-- java/lang/Comparable -/
def k3 : Class := { plain "java/lang/Comparable" (some 0) with
  accessFlags := 1537
  interfaces := #[]
  cf := some (fileOf pool3 1 #[] #[] 1537 3 #[] #[])
  fields := #[]
  methods := #[]
  instanceTypes := #[]
  staticTypes := #[]
  resolved := Array.replicate 12 none
  statics := none }

def pool4 : Array CpInfo := pool [(2, .class_ 4), (1, u "java/lang/CharSequence"), (42, .class_ 48), (0, u "java/lang/CharSequence$1CodePointIterator"), (10, .class_ 60), (0, u "java/lang/CharSequence$1CharIterator"), (5, .class_ 67), (0, u "java/lang/Object")] 63

/-- java/lang/CharSequence -/
def k4 : Class := { plain "java/lang/CharSequence" (some 0) with
  accessFlags := 1537
  interfaces := #[]
  cf := some (fileOf pool4 2 #[.nestMembers #[47, 59]] #[] 1537 66 #[] #[])
  fields := #[]
  methods := #[]
  instanceTypes := #[]
  staticTypes := #[]
  resolved := Array.replicate 131 none
  statics := none }

def pool5 : Array CpInfo := pool [(1, .class_ 2), (0, u "java/lang/constant/Constable"), (0, .class_ 4), (0, u "java/lang/Object")] 6

/-- java/lang/constant/Constable -/
def k5 : Class := { plain "java/lang/constant/Constable" (some 0) with
  accessFlags := 1537
  interfaces := #[]
  cf := some (fileOf pool5 1 #[] #[] 1537 3 #[] #[])
  fields := #[]
  methods := #[]
  instanceTypes := #[]
  staticTypes := #[]
  resolved := Array.replicate 11 none
  statics := none }

def pool6 : Array CpInfo := pool [(1, .class_ 2), (0, u "java/lang/constant/ConstantDesc"), (0, .class_ 4), (0, u "java/lang/Object")] 32

/-- java/lang/constant/ConstantDesc -/
def k6 : Class := { plain "java/lang/constant/ConstantDesc" (some 0) with
  accessFlags := 1537
  interfaces := #[]
  cf := some (fileOf pool6 1 #[] #[] 1537 3 #[] #[])
  fields := #[]
  methods := #[]
  instanceTypes := #[]
  staticTypes := #[]
  resolved := Array.replicate 37 none
  statics := none }

def pool7 : Array CpInfo := pool [(1, .methodref 2 3), (0, .class_ 4), (0, .nameAndType 5 6), (0, u "java/lang/Object"), (0, u "<init>"), (0, u "()V"), (2, .fieldref 10 11), (0, .class_ 12), (0, .nameAndType 13 14), (0, u "java/lang/String"), (0, u "value"), (0, u "[B"), (0, .fieldref 10 16), (0, .nameAndType 17 18), (0, u "coder"), (0, u "B"), (2, u "hash"), (0, u "I"), (2, u "hashIsZero"), (0, u "Z"), (0, .methodref 10 28), (0, .nameAndType 5 29), (0, u "([CIILjava/lang/Void;)V"), (8, .fieldref 10 39), (0, .nameAndType 40 26), (0, u "COMPACT_STRINGS"), (1, .class_ 44), (1, u "java/lang/StringUTF16"), (0, u "compress"), (1, .methodref 42 48), (0, .nameAndType 49 50), (0, u "coderFromArrayLen"), (0, u "([BI)B"), (2, u "toBytes"), (53, .class_ 109), (1, u "java/lang/StringLatin1"), (32, u "()Z"), (34, .methodref 42 178), (0, .nameAndType 45 179), (0, u "([CII)[B"), (29, .methodref 10 210), (0, .nameAndType 5 211), (0, u "([BB)V"), (122, u "()I"), (0, .methodref 10 336), (0, .nameAndType 17 337), (0, u "()B"), (25, u "([BI)C"), (5, u "(C)Z"), (21, u "(II)V"), (35, u "(I)C"), (64, .methodref 10 493), (0, .nameAndType 494 142), (0, u "isLatin1"), (0, .methodref 107 496), (0, .nameAndType 497 363), (0, u "charAt"), (3, u "checkIndex"), (5, u "length"), (33, .methodref 107 542), (0, .nameAndType 543 544), (0, u "equals"), (0, u "([B[B)Z"), (28, u "(Ljava/lang/Object;)Z"), (1, .class_ 576), (0, u "java/lang/CharSequence"), (22, u "CASE_INSENSITIVE_ORDER"), (0, u "Ljava/util/Comparator;"), (181, u "valueOf"), (0, u "(C)Ljava/lang/String;"), (226, u "([C)V"), (4, .methodref 107 1016), (0, .nameAndType 1017 369), (0, u "canEncode"), (0, .methodref 107 1019), (0, .nameAndType 53 1020), (0, u "(C)[B"), (32, .fieldref 1054 1055), (0, .class_ 1056), (0, .nameAndType 1057 1058), (0, u "jdk/internal/util/Preconditions"), (0, u "SIOOBE_FORMATTER"), (0, u "Ljava/util/function/BiFunction;"), (0, .methodref 1054 1060), (0, .nameAndType 501 1061), (0, u "(IILjava/util/function/BiFunction;)I"), (39, u "serialPersistentFields"), (0, u "[Ljava/io/ObjectStreamField;"), (0, .class_ 1104), (0, u "java/lang/String$CaseInsensitiveComparator"), (1, .class_ 1107), (0, u "java/io/Serializable"), (0, .class_ 1109), (0, u "java/lang/Comparable"), (0, .class_ 1111), (0, u "java/lang/constant/Constable"), (0, .class_ 1113), (0, u "java/lang/constant/ConstantDesc"), (2, u "serialVersionUID"), (0, u "J"), (3, u "REPL"), (0, u "C"), (2, u "LATIN1"), (1, u "UTF16")] 323

def k7m0 : Method := { name := "<init>", desc := "()V", sig := { parameters := [], returnType := none }, accessFlags := 1, code := none }
def k7c1 : Code := { maxStack := 5, maxLocals := 2, code := jdk_42_method_3_code, exceptionTable := #[], attributes := #[] }
def k7m1 : Method := { name := "<init>", desc := "([C)V", sig := { parameters := [(.array .char)], returnType := none }, accessFlags := 1, code := some k7c1 }
def k7c2 : Code := { maxStack := 2, maxLocals := 1, code := jdk_42_method_54_code, exceptionTable := #[], attributes := #[] }
def k7m2 : Method := { name := "length", desc := "()I", sig := { parameters := [], returnType := some .int }, accessFlags := 1, code := some k7c2 }
def k7c3 : Code := { maxStack := 2, maxLocals := 2, code := jdk_42_method_56_code, exceptionTable := #[], attributes := #[] }
def k7m3 : Method := { name := "charAt", desc := "(I)C", sig := { parameters := [.int], returnType := some .char }, accessFlags := 1, code := some k7c3 }
def k7c4 : Code := { maxStack := 2, maxLocals := 3, code := jdk_42_method_66_code, exceptionTable := #[], attributes := #[] }
def k7m4 : Method := { name := "equals", desc := "(Ljava/lang/Object;)Z", sig := { parameters := [(.object "java/lang/Object")], returnType := some .boolean }, accessFlags := 1, code := some k7c4 }
def k7c5 : Code := { maxStack := 4, maxLocals := 1, code := jdk_42_method_139_code, exceptionTable := #[], attributes := #[] }
def k7m5 : Method := { name := "valueOf", desc := "(C)Ljava/lang/String;", sig := { parameters := [.char], returnType := some (.object "java/lang/String") }, accessFlags := 9, code := some k7c5 }
def k7c6 : Code := { maxStack := 4, maxLocals := 6, code := jdk_42_method_149_code, exceptionTable := #[], attributes := #[] }
def k7m6 : Method := { name := "<init>", desc := "([CIILjava/lang/Void;)V", sig := { parameters := [(.array .char), .int, .int, (.object "java/lang/Void")], returnType := none }, accessFlags := 2, code := some k7c6 }
def k7c7 : Code := { maxStack := 2, maxLocals := 3, code := jdk_42_method_151_code, exceptionTable := #[], attributes := #[] }
def k7m7 : Method := { name := "<init>", desc := "([BB)V", sig := { parameters := [(.array .byte), .byte], returnType := none }, accessFlags := 0, code := some k7c7 }
def k7c8 : Code := { maxStack := 1, maxLocals := 1, code := jdk_42_method_152_code, exceptionTable := #[], attributes := #[] }
def k7m8 : Method := { name := "coder", desc := "()B", sig := { parameters := [], returnType := some .byte }, accessFlags := 0, code := some k7c8 }
def k7c9 : Code := { maxStack := 1, maxLocals := 1, code := jdk_42_method_154_code, exceptionTable := #[], attributes := #[] }
def k7m9 : Method := { name := "isLatin1", desc := "()Z", sig := { parameters := [], returnType := some .boolean }, accessFlags := 0, code := some k7c9 }
def k7c10 : Code := { maxStack := 3, maxLocals := 2, code := jdk_42_method_155_code, exceptionTable := #[], attributes := #[] }
def k7m10 : Method := { name := "checkIndex", desc := "(II)V", sig := { parameters := [.int, .int], returnType := none }, accessFlags := 8, code := some k7c10 }
/-- java/lang/String -/
def k7 : Class := { plain "java/lang/String" (some 0) with
  accessFlags := 49
  interfaces := #[2, 3, 4, 5, 6]
  cf := some (fileOf pool7 10 #[.nestMembers #[1103]] #[{ accessFlags := 1, nameIndex := 5, descriptorIndex := 6, attributes := #[] }, { accessFlags := 1, nameIndex := 5, descriptorIndex := 1010, attributes := #[] }, { accessFlags := 1, nameIndex := 507, descriptorIndex := 334, attributes := #[] }, { accessFlags := 1, nameIndex := 497, descriptorIndex := 427, attributes := #[] }, { accessFlags := 1, nameIndex := 543, descriptorIndex := 573, attributes := #[] }, { accessFlags := 9, nameIndex := 782, descriptorIndex := 783, attributes := #[] }, { accessFlags := 2, nameIndex := 5, descriptorIndex := 29, attributes := #[] }, { accessFlags := 0, nameIndex := 5, descriptorIndex := 211, attributes := #[] }, { accessFlags := 0, nameIndex := 17, descriptorIndex := 337, attributes := #[] }, { accessFlags := 0, nameIndex := 494, descriptorIndex := 142, attributes := #[] }, { accessFlags := 8, nameIndex := 501, descriptorIndex := 391, attributes := #[] }] 49 2 #[1106, 1108, 575, 1110, 1112] #[{ accessFlags := 18, nameIndex := 13, descriptorIndex := 14, attributes := #[] }, { accessFlags := 18, nameIndex := 17, descriptorIndex := 18, attributes := #[] }, { accessFlags := 2, nameIndex := 21, descriptorIndex := 22, attributes := #[] }, { accessFlags := 2, nameIndex := 25, descriptorIndex := 26, attributes := #[] }, { accessFlags := 26, nameIndex := 1116, descriptorIndex := 1117, attributes := #[] }, { accessFlags := 24, nameIndex := 40, descriptorIndex := 26, attributes := #[] }, { accessFlags := 26, nameIndex := 1101, descriptorIndex := 1102, attributes := #[] }, { accessFlags := 26, nameIndex := 1121, descriptorIndex := 1122, attributes := #[] }, { accessFlags := 25, nameIndex := 599, descriptorIndex := 600, attributes := #[] }, { accessFlags := 24, nameIndex := 1125, descriptorIndex := 18, attributes := #[] }, { accessFlags := 24, nameIndex := 1127, descriptorIndex := 18, attributes := #[] }])
  fields := #[{ name := "value", type := (.array .byte), accessFlags := 18, slot := 0, constantValue := 0 }, { name := "coder", type := .byte, accessFlags := 18, slot := 1, constantValue := 0 }, { name := "hash", type := .int, accessFlags := 2, slot := 2, constantValue := 0 }, { name := "hashIsZero", type := .boolean, accessFlags := 2, slot := 3, constantValue := 0 }, { name := "serialVersionUID", type := .long, accessFlags := 26, slot := 0, constantValue := 0 }, { name := "COMPACT_STRINGS", type := .boolean, accessFlags := 24, slot := 1, constantValue := 0 }, { name := "serialPersistentFields", type := (.array (.object "java/io/ObjectStreamField")), accessFlags := 26, slot := 2, constantValue := 0 }, { name := "REPL", type := .char, accessFlags := 26, slot := 3, constantValue := 0 }, { name := "CASE_INSENSITIVE_ORDER", type := (.object "java/util/Comparator"), accessFlags := 25, slot := 4, constantValue := 0 }, { name := "LATIN1", type := .byte, accessFlags := 24, slot := 5, constantValue := 0 }, { name := "UTF16", type := .byte, accessFlags := 24, slot := 6, constantValue := 0 }]
  methods := #[k7m0, k7m1, k7m2, k7m3, k7m4, k7m5, k7m6, k7m7, k7m8, k7m9, k7m10]
  instanceTypes := #[(.array .byte), .byte, .int, .boolean]
  staticTypes := #[.long, .boolean, (.array (.object "java/io/ObjectStreamField")), .char, (.object "java/util/Comparator"), .byte, .byte]
  resolved := Array.replicate 1451 none
  statics := some 0 }

def pool8 : Array CpInfo := pool [(6, .class_ 8), (1, u "java/lang/Object"), (0, u "<init>"), (0, u "()V"), (1, .class_ 14), (1, u "java/lang/StringUTF16"), (31, u "$assertionsDisabled"), (0, u "Z"), (13, u "HI_BYTE_SHIFT"), (0, u "I"), (2, u "LO_BYTE_SHIFT"), (49, .methodref 12 116), (0, .nameAndType 117 118), (0, u "compress"), (0, u "([CI[BII)I"), (3, u "([CII)[B"), (138, u "coderFromArrayLen"), (0, u "([BI)B"), (106, .class_ 371), (1, u "java/lang/StringUTF16$LinesSpliterator"), (58, u "MAX_LENGTH"), (196, .class_ 628), (0, u "java/lang/StringUTF16$CodePointsSpliterator"), (0, .class_ 630), (0, u "java/lang/StringUTF16$CharsSpliterator")] 4

def k8m0 : Method := { name := "<init>", desc := "()V", sig := { parameters := [], returnType := none }, accessFlags := 0, code := none }
def k8c1 : Code := { maxStack := 2, maxLocals := 2, code := jdk_52_method_15_code, exceptionTable := #[], attributes := #[] }
def k8m1 : Method := { name := "coderFromArrayLen", desc := "([BI)B", sig := { parameters := [(.array .byte), .int], returnType := some .byte }, accessFlags := 8, code := some k8c1 }
def k8c2 : Code := { maxStack := 5, maxLocals := 6, code := jdk_52_method_16_code, exceptionTable := #[], attributes := #[] }
def k8m2 : Method := { name := "compress", desc := "([CII)[B", sig := { parameters := [(.array .char), .int, .int], returnType := some (.array .byte) }, accessFlags := 9, code := some k8c2 }
def k8c3 : Code := { maxStack := 3, maxLocals := 7, code := jdk_52_method_21_code, exceptionTable := #[], attributes := #[] }
def k8m3 : Method := { name := "compress", desc := "([CI[BII)I", sig := { parameters := [(.array .char), .int, (.array .byte), .int, .int], returnType := some .int }, accessFlags := 9, code := some k8c3 }
/-- java/lang/StringUTF16 -/
def k8 : Class := { plain "java/lang/StringUTF16" (some 0) with
  accessFlags := 48
  interfaces := #[]
  cf := some (fileOf pool8 12 #[.nestMembers #[627, 629, 369]] #[{ accessFlags := 0, nameIndex := 9, descriptorIndex := 10, attributes := #[] }, { accessFlags := 8, nameIndex := 261, descriptorIndex := 262, attributes := #[] }, { accessFlags := 9, nameIndex := 117, descriptorIndex := 122, attributes := #[] }, { accessFlags := 9, nameIndex := 117, descriptorIndex := 118, attributes := #[] }] 48 6 #[] #[{ accessFlags := 26, nameIndex := 61, descriptorIndex := 62, attributes := #[] }, { accessFlags := 26, nameIndex := 65, descriptorIndex := 62, attributes := #[] }, { accessFlags := 24, nameIndex := 430, descriptorIndex := 62, attributes := #[] }, { accessFlags := 4120, nameIndex := 46, descriptorIndex := 47, attributes := #[] }])
  fields := #[{ name := "HI_BYTE_SHIFT", type := .int, accessFlags := 26, slot := 0, constantValue := 0 }, { name := "LO_BYTE_SHIFT", type := .int, accessFlags := 26, slot := 1, constantValue := 0 }, { name := "MAX_LENGTH", type := .int, accessFlags := 24, slot := 2, constantValue := 0 }, { name := "$assertionsDisabled", type := .boolean, accessFlags := 4120, slot := 3, constantValue := 0 }]
  methods := #[k8m0, k8m1, k8m2, k8m3]
  instanceTypes := #[]
  staticTypes := #[.int, .int, .int, .boolean]
  resolved := Array.replicate 635 none
  statics := none }

def pool9 : Array CpInfo := pool [(1, .class_ 2), (0, u "java/lang/String"), (1, .class_ 6), (1, u "java/lang/Object"), (0, u "<init>"), (0, u "()V"), (0, .methodref 1 10), (0, .nameAndType 11 12), (0, u "checkIndex"), (0, u "(II)V"), (1, .class_ 16), (1, u "java/lang/StringLatin1"), (36, u "([BI)C"), (36, u "canEncode"), (14, u "(C)Z"), (15, u "$assertionsDisabled"), (0, u "Z"), (98, .class_ 223), (1, u "java/lang/StringLatin1$LinesSpliterator"), (28, u "charAt"), (28, u "equals"), (0, u "([B[B)Z"), (97, u "toBytes"), (1, u "(C)[B"), (7, .class_ 391), (0, u "java/lang/StringLatin1$CharsSpliterator")] 3

def k9m0 : Method := { name := "<init>", desc := "()V", sig := { parameters := [], returnType := none }, accessFlags := 0, code := none }
def k9c1 : Code := { maxStack := 2, maxLocals := 2, code := jdk_43_method_2_code, exceptionTable := #[], attributes := #[] }
def k9m1 : Method := { name := "charAt", desc := "([BI)C", sig := { parameters := [(.array .byte), .int], returnType := some .char }, accessFlags := 9, code := some k9c1 }
def k9c2 : Code := { maxStack := 2, maxLocals := 1, code := jdk_43_method_3_code, exceptionTable := #[], attributes := #[] }
def k9m2 : Method := { name := "canEncode", desc := "(C)Z", sig := { parameters := [.char], returnType := some .boolean }, accessFlags := 9, code := some k9c2 }
def k9c3 : Code := { maxStack := 3, maxLocals := 3, code := jdk_43_method_13_code, exceptionTable := #[], attributes := #[] }
def k9m3 : Method := { name := "equals", desc := "([B[B)Z", sig := { parameters := [(.array .byte), (.array .byte)], returnType := some .boolean }, accessFlags := 9, code := some k9c3 }
def k9c4 : Code := { maxStack := 4, maxLocals := 1, code := jdk_43_method_46_code, exceptionTable := #[], attributes := #[] }
def k9m4 : Method := { name := "toBytes", desc := "(C)[B", sig := { parameters := [.char], returnType := some (.array .byte) }, accessFlags := 9, code := some k9c4 }
/-- java/lang/StringLatin1 -/
def k9 : Class := { plain "java/lang/StringLatin1" (some 0) with
  accessFlags := 48
  interfaces := #[]
  cf := some (fileOf pool9 14 #[.nestMembers #[390, 221]] #[{ accessFlags := 0, nameIndex := 7, descriptorIndex := 8, attributes := #[] }, { accessFlags := 9, nameIndex := 252, descriptorIndex := 53, attributes := #[] }, { accessFlags := 9, nameIndex := 90, descriptorIndex := 105, attributes := #[] }, { accessFlags := 9, nameIndex := 281, descriptorIndex := 282, attributes := #[] }, { accessFlags := 9, nameIndex := 380, descriptorIndex := 382, attributes := #[] }] 48 4 #[] #[{ accessFlags := 4120, nameIndex := 121, descriptorIndex := 122, attributes := #[] }])
  fields := #[{ name := "$assertionsDisabled", type := .boolean, accessFlags := 4120, slot := 0, constantValue := 0 }]
  methods := #[k9m0, k9m1, k9m2, k9m3, k9m4]
  instanceTypes := #[]
  staticTypes := #[.boolean]
  resolved := Array.replicate 395 none
  statics := none }

def pool10 : Array CpInfo := pool [(1, .methodref 2 3), (0, .class_ 4), (0, .nameAndType 5 6), (0, u "java/lang/Object"), (0, u "<init>"), (0, u "()V"), (0, .class_ 8), (0, u "java/lang/Record")] 13

def k10c0 : Code := { maxStack := 1, maxLocals := 1, code := jdk_30_method_1_code, exceptionTable := #[], attributes := #[] }
def k10m0 : Method := { name := "<init>", desc := "()V", sig := { parameters := [], returnType := none }, accessFlags := 4, code := some k10c0 }
/-- java/lang/Record -/
def k10 : Class := { plain "java/lang/Record" (some 0) with
  accessFlags := 1057
  interfaces := #[]
  cf := some (fileOf pool10 7 #[] #[{ accessFlags := 4, nameIndex := 5, descriptorIndex := 6, attributes := #[] }] 1057 2 #[] #[])
  fields := #[]
  methods := #[k10m0]
  instanceTypes := #[]
  staticTypes := #[]
  resolved := Array.replicate 22 none
  statics := none }

def pool11 : Array CpInfo := pool [(1, .class_ 2), (0, u "com/example/grantline/grantline/eval/CredentialTarget"), (0, .methodref 4 5), (0, .class_ 6), (0, .nameAndType 7 8), (0, u "java/lang/Record"), (0, u "<init>"), (0, u "()V"), (0, .fieldref 10 11), (0, .class_ 12), (0, .nameAndType 13 14), (0, u "com/example/grantline/grantline/eval/CredentialTarget$Owner"), (0, u "principalClass"), (0, u "Ljava/lang/String;"), (0, .fieldref 10 16), (0, .nameAndType 17 14), (0, u "name"), (0, .string 19), (0, u "*"), (0, .methodref 21 22), (0, .class_ 23), (0, .nameAndType 24 25), (0, u "java/lang/String"), (0, u "equals"), (0, u "(Ljava/lang/Object;)Z"), (11, u "(Ljava/lang/String;Ljava/lang/String;)V"), (3, u "covers"), (0, u "(Lcom/example/grantline/grantline/eval/CredentialTarget$Owner;)Z")] 26

def k11c0 : Code := { maxStack := 2, maxLocals := 3, code := prog_25_method_1_code, exceptionTable := #[], attributes := #[] }
def k11m0 : Method := { name := "<init>", desc := "(Ljava/lang/String;Ljava/lang/String;)V", sig := { parameters := [(.object "java/lang/String"), (.object "java/lang/String")], returnType := none }, accessFlags := 0, code := some k11c0 }
def k11c1 : Code := { maxStack := 2, maxLocals := 2, code := prog_25_method_2_code, exceptionTable := #[], attributes := #[] }
def k11m1 : Method := { name := "covers", desc := "(Lcom/example/grantline/grantline/eval/CredentialTarget$Owner;)Z", sig := { parameters := [(.object "com/example/grantline/grantline/eval/CredentialTarget$Owner")], returnType := some .boolean }, accessFlags := 0, code := some k11c1 }
/-- com/example/grantline/grantline/eval/CredentialTarget$Owner -/
def k11 : Class := { plain "com/example/grantline/grantline/eval/CredentialTarget$Owner" (some 10) with
  accessFlags := 48
  interfaces := #[]
  cf := some (fileOf pool11 10 #[.nestHost 1] #[{ accessFlags := 0, nameIndex := 7, descriptorIndex := 37, attributes := #[] }, { accessFlags := 0, nameIndex := 41, descriptorIndex := 42, attributes := #[] }] 48 4 #[] #[{ accessFlags := 18, nameIndex := 13, descriptorIndex := 14, attributes := #[] }, { accessFlags := 18, nameIndex := 17, descriptorIndex := 14, attributes := #[] }])
  fields := #[{ name := "principalClass", type := (.object "java/lang/String"), accessFlags := 18, slot := 0, constantValue := 0 }, { name := "name", type := (.object "java/lang/String"), accessFlags := 18, slot := 1, constantValue := 0 }]
  methods := #[k11m0, k11m1]
  instanceTypes := #[(.object "java/lang/String"), (.object "java/lang/String")]
  staticTypes := #[]
  resolved := Array.replicate 69 none
  statics := none }

def pool12 : Array CpInfo := pool [(2, .class_ 4), (1, u "java/lang/Object"), (0, u "<init>"), (0, u "()V"), (17, .class_ 26), (1, u "jdk/internal/util/Preconditions"), (6, u "checkIndex"), (21, .class_ 56), (0, u "jdk/internal/util/Preconditions$4"), (57, .class_ 115), (0, u "jdk/internal/util/Preconditions$1"), (7, u "SIOOBE_FORMATTER"), (0, u "Ljava/util/function/BiFunction;"), (0, .class_ 126), (0, u "jdk/internal/util/Preconditions$2"), (3, u "AIOOBE_FORMATTER"), (0, .class_ 132), (0, u "jdk/internal/util/Preconditions$3"), (3, u "IOOBE_FORMATTER"), (41, u "(IILjava/util/function/BiFunction;)I")] 15

def k12m0 : Method := { name := "<init>", desc := "()V", sig := { parameters := [], returnType := none }, accessFlags := 1, code := none }
def k12c1 : Code := { maxStack := 3, maxLocals := 3, code := jdk_41_method_11_code, exceptionTable := #[], attributes := #[] }
def k12m1 : Method := { name := "checkIndex", desc := "(IILjava/util/function/BiFunction;)I", sig := { parameters := [.int, .int, (.object "java/util/function/BiFunction")], returnType := some .int }, accessFlags := 9, code := some k12c1 }
/-- jdk/internal/util/Preconditions -/
def k12 : Class := { plain "jdk/internal/util/Preconditions" (some 0) with
  accessFlags := 33
  interfaces := #[]
  cf := some (fileOf pool12 24 #[.nestMembers #[55, 131, 125, 114]] #[{ accessFlags := 1, nameIndex := 5, descriptorIndex := 6, attributes := #[] }, { accessFlags := 9, nameIndex := 33, descriptorIndex := 178, attributes := #[] }] 33 2 #[] #[{ accessFlags := 25, nameIndex := 123, descriptorIndex := 124, attributes := #[] }, { accessFlags := 25, nameIndex := 130, descriptorIndex := 124, attributes := #[] }, { accessFlags := 25, nameIndex := 136, descriptorIndex := 124, attributes := #[] }])
  fields := #[{ name := "SIOOBE_FORMATTER", type := (.object "java/util/function/BiFunction"), accessFlags := 25, slot := 0, constantValue := 0 }, { name := "AIOOBE_FORMATTER", type := (.object "java/util/function/BiFunction"), accessFlags := 25, slot := 1, constantValue := 0 }, { name := "IOOBE_FORMATTER", type := (.object "java/util/function/BiFunction"), accessFlags := 25, slot := 2, constantValue := 0 }]
  methods := #[k12m0, k12m1]
  instanceTypes := #[]
  staticTypes := #[(.object "java/util/function/BiFunction"), (.object "java/util/function/BiFunction"), (.object "java/util/function/BiFunction")]
  resolved := Array.replicate 194 none
  statics := some 1 }

def pool13 : Array CpInfo := pool [(9, u "<init>"), (6, .class_ 18), (1, u "java/lang/Object"), (0, u "()V"), (1, .class_ 23), (1, u "jdk/internal/util/ArraysSupport"), (0, u "LOG2_ARRAY_LONG_INDEX_SCALE"), (0, u "I"), (2, u "U"), (0, u "Ljdk/internal/misc/Unsafe;"), (8, u "BIG_ENDIAN"), (0, u "Z"), (8, u "LOG2_BYTE_BIT_SIZE"), (4, u "LOG2_ARRAY_INT_INDEX_SCALE"), (54, u "JLA"), (0, u "Ljdk/internal/access/JavaLangAccess;"), (11, u "LOG2_ARRAY_BOOLEAN_INDEX_SCALE"), (9, u "LOG2_ARRAY_BYTE_INDEX_SCALE"), (5, u "LOG2_ARRAY_CHAR_INDEX_SCALE"), (5, u "LOG2_ARRAY_SHORT_INDEX_SCALE"), (18, u "LOG2_ARRAY_FLOAT_INDEX_SCALE"), (24, u "LOG2_ARRAY_DOUBLE_INDEX_SCALE"), (89, u "T_BOOLEAN"), (2, u "T_CHAR"), (1, u "T_FLOAT"), (1, u "T_DOUBLE"), (1, u "T_BYTE"), (1, u "T_SHORT"), (1, u "T_INT"), (1, u "T_LONG"), (1, u "SOFT_MAX_ARRAY_LENGTH")] 83

def k13m0 : Method := { name := "<init>", desc := "()V", sig := { parameters := [], returnType := none }, accessFlags := 2, code := none }
/-- jdk/internal/util/ArraysSupport -/
def k13 : Class := { plain "jdk/internal/util/ArraysSupport" (some 0) with
  accessFlags := 33
  interfaces := #[]
  cf := some (fileOf pool13 21 #[] #[{ accessFlags := 2, nameIndex := 9, descriptorIndex := 19, attributes := #[] }] 33 16 #[] #[{ accessFlags := 24, nameIndex := 28, descriptorIndex := 29, attributes := #[] }, { accessFlags := 26, nameIndex := 38, descriptorIndex := 39, attributes := #[] }, { accessFlags := 25, nameIndex := 121, descriptorIndex := 25, attributes := #[] }, { accessFlags := 25, nameIndex := 131, descriptorIndex := 25, attributes := #[] }, { accessFlags := 25, nameIndex := 137, descriptorIndex := 25, attributes := #[] }, { accessFlags := 25, nameIndex := 143, descriptorIndex := 25, attributes := #[] }, { accessFlags := 25, nameIndex := 53, descriptorIndex := 25, attributes := #[] }, { accessFlags := 25, nameIndex := 24, descriptorIndex := 25, attributes := #[] }, { accessFlags := 25, nameIndex := 162, descriptorIndex := 25, attributes := #[] }, { accessFlags := 25, nameIndex := 187, descriptorIndex := 25, attributes := #[] }, { accessFlags := 26, nameIndex := 48, descriptorIndex := 25, attributes := #[] }, { accessFlags := 25, nameIndex := 277, descriptorIndex := 25, attributes := #[] }, { accessFlags := 25, nameIndex := 280, descriptorIndex := 25, attributes := #[] }, { accessFlags := 25, nameIndex := 282, descriptorIndex := 25, attributes := #[] }, { accessFlags := 25, nameIndex := 284, descriptorIndex := 25, attributes := #[] }, { accessFlags := 25, nameIndex := 286, descriptorIndex := 25, attributes := #[] }, { accessFlags := 25, nameIndex := 288, descriptorIndex := 25, attributes := #[] }, { accessFlags := 25, nameIndex := 290, descriptorIndex := 25, attributes := #[] }, { accessFlags := 25, nameIndex := 292, descriptorIndex := 25, attributes := #[] }, { accessFlags := 26, nameIndex := 108, descriptorIndex := 109, attributes := #[] }, { accessFlags := 25, nameIndex := 294, descriptorIndex := 25, attributes := #[] }])
  fields := #[{ name := "U", type := (.object "jdk/internal/misc/Unsafe"), accessFlags := 24, slot := 0, constantValue := 0 }, { name := "BIG_ENDIAN", type := .boolean, accessFlags := 26, slot := 1, constantValue := 0 }, { name := "LOG2_ARRAY_BOOLEAN_INDEX_SCALE", type := .int, accessFlags := 25, slot := 2, constantValue := 0 }, { name := "LOG2_ARRAY_BYTE_INDEX_SCALE", type := .int, accessFlags := 25, slot := 3, constantValue := 0 }, { name := "LOG2_ARRAY_CHAR_INDEX_SCALE", type := .int, accessFlags := 25, slot := 4, constantValue := 0 }, { name := "LOG2_ARRAY_SHORT_INDEX_SCALE", type := .int, accessFlags := 25, slot := 5, constantValue := 0 }, { name := "LOG2_ARRAY_INT_INDEX_SCALE", type := .int, accessFlags := 25, slot := 6, constantValue := 0 }, { name := "LOG2_ARRAY_LONG_INDEX_SCALE", type := .int, accessFlags := 25, slot := 7, constantValue := 0 }, { name := "LOG2_ARRAY_FLOAT_INDEX_SCALE", type := .int, accessFlags := 25, slot := 8, constantValue := 0 }, { name := "LOG2_ARRAY_DOUBLE_INDEX_SCALE", type := .int, accessFlags := 25, slot := 9, constantValue := 0 }, { name := "LOG2_BYTE_BIT_SIZE", type := .int, accessFlags := 26, slot := 10, constantValue := 0 }, { name := "T_BOOLEAN", type := .int, accessFlags := 25, slot := 11, constantValue := 0 }, { name := "T_CHAR", type := .int, accessFlags := 25, slot := 12, constantValue := 0 }, { name := "T_FLOAT", type := .int, accessFlags := 25, slot := 13, constantValue := 0 }, { name := "T_DOUBLE", type := .int, accessFlags := 25, slot := 14, constantValue := 0 }, { name := "T_BYTE", type := .int, accessFlags := 25, slot := 15, constantValue := 0 }, { name := "T_SHORT", type := .int, accessFlags := 25, slot := 16, constantValue := 0 }, { name := "T_INT", type := .int, accessFlags := 25, slot := 17, constantValue := 0 }, { name := "T_LONG", type := .int, accessFlags := 25, slot := 18, constantValue := 0 }, { name := "JLA", type := (.object "jdk/internal/access/JavaLangAccess"), accessFlags := 26, slot := 19, constantValue := 0 }, { name := "SOFT_MAX_ARRAY_LENGTH", type := .int, accessFlags := 25, slot := 20, constantValue := 0 }]
  methods := #[k13m0]
  instanceTypes := #[]
  staticTypes := #[(.object "jdk/internal/misc/Unsafe"), .boolean, .int, .int, .int, .int, .int, .int, .int, .int, .int, .int, .int, .int, .int, .int, .int, .int, .int, (.object "jdk/internal/access/JavaLangAccess"), .int]
  resolved := Array.replicate 378 none
  statics := none }

def pool14 : Array CpInfo := pool [(1, u "java/lang/Cloneable"), (0, .class_ 1), (0, u "java/lang/Object"), (0, .class_ 3)] 3

/-- java/lang/Cloneable -/
def k14 : Class := { plain "java/lang/Cloneable" (some 0) with
  accessFlags := 1537
  interfaces := #[]
  cf := some (fileOf pool14 2 #[] #[] 1537 4 #[] #[])
  fields := #[]
  methods := #[]
  instanceTypes := #[]
  staticTypes := #[]
  resolved := Array.replicate 8 none
  statics := none }

/-- the primitive byte -/
def k15 : Class := { plain "byte" none with kind := .primitive 'B', accessFlags := 0x411 }
/-- [B -/
def k16 : Class := { plain "[B" (some 0) with kind := .array 15 .byte, interfaces := #[14, 2], accessFlags := 1041 }

/-- the primitive char -/
def k17 : Class := { plain "char" none with kind := .primitive 'C', accessFlags := 0x411 }
/-- [C -/
def k18 : Class := { plain "[C" (some 0) with kind := .array 17 .char, interfaces := #[14, 2], accessFlags := 1041 }

/-- the primitive int -/
def k19 : Class := { plain "int" none with kind := .primitive 'I', accessFlags := 0x411 }
/-- [I -/
def k20 : Class := { plain "[I" (some 0) with kind := .array 19 .int, interfaces := #[14, 2], accessFlags := 1041 }

def heap : Heap := #[{ cls := 7, slots := #[.long 0, .int 1, .null, .int 0, .null, .int 0, .int 0], vm := .statics 7 },
  { cls := 12, slots := #[.null, .null, .null], vm := .statics 12 }]
def classes : Array Class := #[k0, k1, k2, k3, k4, k5, k6, k7, k8, k9, k10, k11, k12, k13, k14, k15, k16, k17, k18, k19, k20]
def interned : List (Array UInt16 × Addr) := []
def slotsUsed : Nat := 10
def theMethod : MethodId := ⟨1, 1⟩
def args0 : Array Value := #[.int 1, .int 2, .int 3, .int 4, .int 5]
def aboutOver (below : List Frame) : State where
  vm := { classes := classes, interned := interned.toArray }
  heap := heap
  slotsUsed := slotsUsed
  threads := #[{ frames := .invoking theMethod args0 :: below }]
def below0 : List Frame := [.native { method := ⟨0, 0⟩, args := #[] }]
def about1 : State := aboutOver below0
def p0 : Program := .bare "" "" ""
def e0 : Env := launch0.env 0 0 0
theorem w_frames : about1.frames = Frame.invoking theMethod args0 :: below0 := rfl
set_option maxRecDepth 65536 in
theorem w_args : argsFit about1.vm theMethod args0 = true := by decide +kernel
set_option maxRecDepth 65536 in
theorem w_heap : heapFits about1 = true := by decide +kernel
set_option maxRecDepth 65536 in
theorem w_runnable : about1.curStatus? = some .runnable := by decide +kernel
set_option maxRecDepth 65536 in
theorem w_alone : about1.alone = true := by decide +kernel
set_option maxRecDepth 65536 in
theorem w_named : about1.methodNamed? x = some theMethod := by decide +kernel
set_option maxRecDepth 65536 in
theorem w_hears : about1.hears theMethod below0 = true := by decide +kernel
set_option maxRecDepth 65536 in
theorem w_ripe : about1.ripe theMethod args0 below0 = true := by decide +kernel
theorem w_running : about1.status = .running := rfl
set_option maxRecDepth 65536 in
theorem w_room : about1.hasRoom e0.platform room_1 = true :=
  launch0.hasRoom_least _ room_1 (by decide +kernel) (by decide +kernel) (by decide +kernel) (by decide +kernel) (by decide +kernel) (by decide +kernel)
theorem allAtoms_all (ts : List Jvm.Cond) (a : Array Jvm.Value) (st : Jvm.State) : (allAtoms ts).before a st = ts.all (fun c => c.before a st) := by
  induction ts with
  | nil => rfl
  | cons c t ih =>
    show (Jvm.Cond.and c (allAtoms t)).before a st = _
    rw [Jvm.Cond.before_and, ih, List.all_cons]
def words1 : List Jvm.Cond := Jvm.Cond.code x code maxLocals ret :: tables_1
/-- a 'code' word, met by the world's own term for the bytes: nothing is compared byte by byte -/
theorem code_word {y : MethodName} {bytes : ByteArray} {mx : Nat} {rt : Option FieldType} {a : Array Value} {s : State} {m : MethodId} {meth : Method} {c : Code} (h1 : s.methodNamed? y = some m) (h2 : s.vm.method? m = some meth) (h3 : meth.code = some c) (h4 : c.code = bytes)
    (h5 : (c.maxLocals == mx && c.exceptionTable.isEmpty && decide (c.maxStack ≤ mostOperands) && decide (meth.sig.returnType = rt) && !meth.locks && decide (parseMethodDescriptor y.desc = some meth.sig)) = true) : (Jvm.Cond.code y bytes mx rt).before a s = true := by
  simp only [Bool.and_eq_true, beq_iff_eq, Bool.not_eq_true', decide_eq_true_eq] at h5
  obtain ⟨⟨⟨⟨⟨g1, g2⟩, g3⟩, g4⟩, g5⟩, g6⟩ := h5
  simp [Cond.before, Cond.holds, Cond.value, h1, h2, h3, h4, g1, g2, g3, g4, g5, g6]
def isCode : Jvm.Cond → Bool
  | .code _ _ _ _ => true
  | _ => false
theorem all_split {L : List Jvm.Cond} {P : Jvm.Cond → Bool} (h1 : L.all (fun c => isCode c || P c) = true) (h2 : ∀ c ∈ L.filter isCode, P c = true) : L.all P = true := by
  refine List.all_eq_true.mpr fun c hc => ?_
  have h := List.all_eq_true.mp h1 c hc
  rcases Bool.eq_false_or_eq_true (isCode c) with hi | hi
  · exact h2 c (List.mem_filter.mpr ⟨hc, hi⟩)
  · simpa [hi] using h
set_option maxRecDepth 65536 in
theorem w_c0 : (Jvm.Cond.code x code maxLocals ret).before args0 about1 = true := code_word (m := ⟨1, 1⟩) (meth := k1m1) (c := k1c1) (by decide +kernel) rfl rfl rfl (by decide +kernel)
set_option maxRecDepth 65536 in
theorem w_c1 : (Jvm.Cond.code ({ cls := "com/example/grantline/grantline/eval/OwnerCoversPinLaw", name := "str", desc := "(I)Ljava/lang/String;" } : Jvm.MethodName) method_4_code (5 : Nat) (Option.some (Jvm.ClassFile.FieldType.object "java/lang/String"))).before args0 about1 = true := code_word (m := ⟨1, 3⟩) (meth := k1m3) (c := k1c3) (by decide +kernel) rfl rfl rfl (by decide +kernel)
set_option maxRecDepth 65536 in
theorem w_c2 : (Jvm.Cond.code ({ cls := "com/example/grantline/grantline/eval/OwnerCoversPinLaw", name := "ch", desc := "(I)C" } : Jvm.MethodName) method_3_code (2 : Nat) (Option.some Jvm.ClassFile.FieldType.char)).before args0 about1 = true := code_word (m := ⟨1, 2⟩) (meth := k1m2) (c := k1c2) (by decide +kernel) rfl rfl rfl (by decide +kernel)
set_option maxRecDepth 65536 in
theorem w_c3 : (Jvm.Cond.code ({ cls := "java/lang/String", name := "<init>", desc := "([C)V" } : Jvm.MethodName) jdk_42_method_3_code (2 : Nat) (Option.none : Option Jvm.ClassFile.FieldType)).before args0 about1 = true := code_word (m := ⟨7, 1⟩) (meth := k7m1) (c := k7c1) (by decide +kernel) rfl rfl rfl (by decide +kernel)
set_option maxRecDepth 65536 in
theorem w_c4 : (Jvm.Cond.code ({ cls := "java/lang/String", name := "<init>", desc := "([CIILjava/lang/Void;)V" } : Jvm.MethodName) jdk_42_method_149_code (6 : Nat) (Option.none : Option Jvm.ClassFile.FieldType)).before args0 about1 = true := code_word (m := ⟨7, 6⟩) (meth := k7m6) (c := k7c6) (by decide +kernel) rfl rfl rfl (by decide +kernel)
set_option maxRecDepth 65536 in
theorem w_c5 : (Jvm.Cond.code ({ cls := "java/lang/Object", name := "<init>", desc := "()V" } : Jvm.MethodName) object_method_1_code (1 : Nat) (Option.none : Option Jvm.ClassFile.FieldType)).before args0 about1 = true := code_word (m := ⟨0, 0⟩) (meth := k0m0) (c := k0c0) (by decide +kernel) rfl rfl rfl (by decide +kernel)
set_option maxRecDepth 65536 in
theorem w_c6 : (Jvm.Cond.code ({ cls := "java/lang/StringUTF16", name := "compress", desc := "([CII)[B" } : Jvm.MethodName) jdk_52_method_16_code (6 : Nat) (Option.some (Jvm.ClassFile.FieldType.array Jvm.ClassFile.FieldType.byte))).before args0 about1 = true := code_word (m := ⟨8, 2⟩) (meth := k8m2) (c := k8c2) (by decide +kernel) rfl rfl rfl (by decide +kernel)
set_option maxRecDepth 65536 in
theorem w_c7 : (Jvm.Cond.code ({ cls := "java/lang/StringUTF16", name := "compress", desc := "([CI[BII)I" } : Jvm.MethodName) jdk_52_method_21_code (7 : Nat) (Option.some Jvm.ClassFile.FieldType.int)).before args0 about1 = true := code_word (m := ⟨8, 3⟩) (meth := k8m3) (c := k8c3) (by decide +kernel) rfl rfl rfl (by decide +kernel)
set_option maxRecDepth 65536 in
theorem w_c8 : (Jvm.Cond.code ({ cls := "java/lang/StringUTF16", name := "coderFromArrayLen", desc := "([BI)B" } : Jvm.MethodName) jdk_52_method_15_code (2 : Nat) (Option.some Jvm.ClassFile.FieldType.byte)).before args0 about1 = true := code_word (m := ⟨8, 1⟩) (meth := k8m1) (c := k8c1) (by decide +kernel) rfl rfl rfl (by decide +kernel)
set_option maxRecDepth 65536 in
theorem w_c9 : (Jvm.Cond.code ({ cls := "java/lang/String", name := "valueOf", desc := "(C)Ljava/lang/String;" } : Jvm.MethodName) jdk_42_method_139_code (1 : Nat) (Option.some (Jvm.ClassFile.FieldType.object "java/lang/String"))).before args0 about1 = true := code_word (m := ⟨7, 5⟩) (meth := k7m5) (c := k7c5) (by decide +kernel) rfl rfl rfl (by decide +kernel)
set_option maxRecDepth 65536 in
theorem w_c10 : (Jvm.Cond.code ({ cls := "java/lang/StringLatin1", name := "canEncode", desc := "(C)Z" } : Jvm.MethodName) jdk_43_method_3_code (1 : Nat) (Option.some Jvm.ClassFile.FieldType.boolean)).before args0 about1 = true := code_word (m := ⟨9, 2⟩) (meth := k9m2) (c := k9c2) (by decide +kernel) rfl rfl rfl (by decide +kernel)
set_option maxRecDepth 65536 in
theorem w_c11 : (Jvm.Cond.code ({ cls := "java/lang/StringLatin1", name := "toBytes", desc := "(C)[B" } : Jvm.MethodName) jdk_43_method_46_code (1 : Nat) (Option.some (Jvm.ClassFile.FieldType.array Jvm.ClassFile.FieldType.byte))).before args0 about1 = true := code_word (m := ⟨9, 4⟩) (meth := k9m4) (c := k9c4) (by decide +kernel) rfl rfl rfl (by decide +kernel)
set_option maxRecDepth 65536 in
theorem w_c12 : (Jvm.Cond.code ({ cls := "java/lang/String", name := "<init>", desc := "([BB)V" } : Jvm.MethodName) jdk_42_method_151_code (3 : Nat) (Option.none : Option Jvm.ClassFile.FieldType)).before args0 about1 = true := code_word (m := ⟨7, 7⟩) (meth := k7m7) (c := k7c7) (by decide +kernel) rfl rfl rfl (by decide +kernel)
set_option maxRecDepth 65536 in
theorem w_c13 : (Jvm.Cond.code ({ cls := "com/example/grantline/grantline/eval/CredentialTarget$Owner", name := "<init>", desc := "(Ljava/lang/String;Ljava/lang/String;)V" } : Jvm.MethodName) prog_25_method_1_code (3 : Nat) (Option.none : Option Jvm.ClassFile.FieldType)).before args0 about1 = true := code_word (m := ⟨11, 0⟩) (meth := k11m0) (c := k11c0) (by decide +kernel) rfl rfl rfl (by decide +kernel)
set_option maxRecDepth 65536 in
theorem w_c14 : (Jvm.Cond.code ({ cls := "java/lang/Record", name := "<init>", desc := "()V" } : Jvm.MethodName) jdk_30_method_1_code (1 : Nat) (Option.none : Option Jvm.ClassFile.FieldType)).before args0 about1 = true := code_word (m := ⟨10, 0⟩) (meth := k10m0) (c := k10c0) (by decide +kernel) rfl rfl rfl (by decide +kernel)
set_option maxRecDepth 65536 in
theorem w_c15 : (Jvm.Cond.code ({ cls := "com/example/grantline/grantline/eval/OwnerCoversPinLaw", name := "isAny", desc := "(Ljava/lang/String;)Z" } : Jvm.MethodName) method_5_code (1 : Nat) (Option.some Jvm.ClassFile.FieldType.boolean)).before args0 about1 = true := code_word (m := ⟨1, 4⟩) (meth := k1m4) (c := k1c4) (by decide +kernel) rfl rfl rfl (by decide +kernel)
set_option maxRecDepth 65536 in
theorem w_c16 : (Jvm.Cond.code ({ cls := "java/lang/String", name := "length", desc := "()I" } : Jvm.MethodName) jdk_42_method_54_code (1 : Nat) (Option.some Jvm.ClassFile.FieldType.int)).before args0 about1 = true := code_word (m := ⟨7, 2⟩) (meth := k7m2) (c := k7c2) (by decide +kernel) rfl rfl rfl (by decide +kernel)
set_option maxRecDepth 65536 in
theorem w_c17 : (Jvm.Cond.code ({ cls := "java/lang/String", name := "coder", desc := "()B" } : Jvm.MethodName) jdk_42_method_152_code (1 : Nat) (Option.some Jvm.ClassFile.FieldType.byte)).before args0 about1 = true := code_word (m := ⟨7, 8⟩) (meth := k7m8) (c := k7c8) (by decide +kernel) rfl rfl rfl (by decide +kernel)
set_option maxRecDepth 65536 in
theorem w_c18 : (Jvm.Cond.code ({ cls := "com/example/grantline/grantline/eval/OwnerCoversPinLaw", name := "same", desc := "(Ljava/lang/String;Ljava/lang/String;)Z" } : Jvm.MethodName) method_6_code (3 : Nat) (Option.some Jvm.ClassFile.FieldType.boolean)).before args0 about1 = true := code_word (m := ⟨1, 5⟩) (meth := k1m5) (c := k1c5) (by decide +kernel) rfl rfl rfl (by decide +kernel)
set_option maxRecDepth 65536 in
theorem w_c19 : (Jvm.Cond.code ({ cls := "com/example/grantline/grantline/eval/CredentialTarget$Owner", name := "covers", desc := "(Lcom/example/grantline/grantline/eval/CredentialTarget$Owner;)Z" } : Jvm.MethodName) prog_25_method_2_code (2 : Nat) (Option.some Jvm.ClassFile.FieldType.boolean)).before args0 about1 = true := code_word (m := ⟨11, 1⟩) (meth := k11m1) (c := k11c1) (by decide +kernel) rfl rfl rfl (by decide +kernel)
set_option maxRecDepth 65536 in
theorem w_c20 : (Jvm.Cond.code ({ cls := "java/lang/String", name := "equals", desc := "(Ljava/lang/Object;)Z" } : Jvm.MethodName) jdk_42_method_66_code (3 : Nat) (Option.some Jvm.ClassFile.FieldType.boolean)).before args0 about1 = true := code_word (m := ⟨7, 4⟩) (meth := k7m4) (c := k7c4) (by decide +kernel) rfl rfl rfl (by decide +kernel)
set_option maxRecDepth 65536 in
theorem w_c21 : (Jvm.Cond.code ({ cls := "java/lang/StringLatin1", name := "equals", desc := "([B[B)Z" } : Jvm.MethodName) jdk_43_method_13_code (3 : Nat) (Option.some Jvm.ClassFile.FieldType.boolean)).before args0 about1 = true := code_word (m := ⟨9, 3⟩) (meth := k9m3) (c := k9c3) (by decide +kernel) rfl rfl rfl (by decide +kernel)
set_option maxRecDepth 65536 in
theorem w_c22 : (Jvm.Cond.code ({ cls := "java/lang/String", name := "charAt", desc := "(I)C" } : Jvm.MethodName) jdk_42_method_56_code (2 : Nat) (Option.some Jvm.ClassFile.FieldType.char)).before args0 about1 = true := code_word (m := ⟨7, 3⟩) (meth := k7m3) (c := k7c3) (by decide +kernel) rfl rfl rfl (by decide +kernel)
set_option maxRecDepth 65536 in
theorem w_c23 : (Jvm.Cond.code ({ cls := "java/lang/String", name := "isLatin1", desc := "()Z" } : Jvm.MethodName) jdk_42_method_154_code (1 : Nat) (Option.some Jvm.ClassFile.FieldType.boolean)).before args0 about1 = true := code_word (m := ⟨7, 9⟩) (meth := k7m9) (c := k7c9) (by decide +kernel) rfl rfl rfl (by decide +kernel)
set_option maxRecDepth 65536 in
theorem w_c24 : (Jvm.Cond.code ({ cls := "java/lang/StringLatin1", name := "charAt", desc := "([BI)C" } : Jvm.MethodName) jdk_43_method_2_code (2 : Nat) (Option.some Jvm.ClassFile.FieldType.char)).before args0 about1 = true := code_word (m := ⟨9, 1⟩) (meth := k9m1) (c := k9c1) (by decide +kernel) rfl rfl rfl (by decide +kernel)
set_option maxRecDepth 65536 in
theorem w_c25 : (Jvm.Cond.code ({ cls := "java/lang/String", name := "checkIndex", desc := "(II)V" } : Jvm.MethodName) jdk_42_method_155_code (2 : Nat) (Option.none : Option Jvm.ClassFile.FieldType)).before args0 about1 = true := code_word (m := ⟨7, 10⟩) (meth := k7m10) (c := k7c10) (by decide +kernel) rfl rfl rfl (by decide +kernel)
set_option maxRecDepth 65536 in
theorem w_c26 : (Jvm.Cond.code ({ cls := "jdk/internal/util/Preconditions", name := "checkIndex", desc := "(IILjava/util/function/BiFunction;)I" } : Jvm.MethodName) jdk_41_method_11_code (3 : Nat) (Option.some Jvm.ClassFile.FieldType.int)).before args0 about1 = true := code_word (m := ⟨12, 1⟩) (meth := k12m1) (c := k12c1) (by decide +kernel) rfl rfl rfl (by decide +kernel)
def codes1 : List Jvm.Cond := [Jvm.Cond.code x code maxLocals ret, Jvm.Cond.code ({ cls := "com/example/grantline/grantline/eval/OwnerCoversPinLaw", name := "str", desc := "(I)Ljava/lang/String;" } : Jvm.MethodName) method_4_code (5 : Nat) (Option.some (Jvm.ClassFile.FieldType.object "java/lang/String")), Jvm.Cond.code ({ cls := "com/example/grantline/grantline/eval/OwnerCoversPinLaw", name := "ch", desc := "(I)C" } : Jvm.MethodName) method_3_code (2 : Nat) (Option.some Jvm.ClassFile.FieldType.char), Jvm.Cond.code ({ cls := "java/lang/String", name := "<init>", desc := "([C)V" } : Jvm.MethodName) jdk_42_method_3_code (2 : Nat) (Option.none : Option Jvm.ClassFile.FieldType), Jvm.Cond.code ({ cls := "java/lang/String", name := "<init>", desc := "([CIILjava/lang/Void;)V" } : Jvm.MethodName) jdk_42_method_149_code (6 : Nat) (Option.none : Option Jvm.ClassFile.FieldType), Jvm.Cond.code ({ cls := "java/lang/Object", name := "<init>", desc := "()V" } : Jvm.MethodName) object_method_1_code (1 : Nat) (Option.none : Option Jvm.ClassFile.FieldType), Jvm.Cond.code ({ cls := "java/lang/StringUTF16", name := "compress", desc := "([CII)[B" } : Jvm.MethodName) jdk_52_method_16_code (6 : Nat) (Option.some (Jvm.ClassFile.FieldType.array Jvm.ClassFile.FieldType.byte)), Jvm.Cond.code ({ cls := "java/lang/StringUTF16", name := "compress", desc := "([CI[BII)I" } : Jvm.MethodName) jdk_52_method_21_code (7 : Nat) (Option.some Jvm.ClassFile.FieldType.int), Jvm.Cond.code ({ cls := "java/lang/StringUTF16", name := "coderFromArrayLen", desc := "([BI)B" } : Jvm.MethodName) jdk_52_method_15_code (2 : Nat) (Option.some Jvm.ClassFile.FieldType.byte), Jvm.Cond.code ({ cls := "java/lang/String", name := "valueOf", desc := "(C)Ljava/lang/String;" } : Jvm.MethodName) jdk_42_method_139_code (1 : Nat) (Option.some (Jvm.ClassFile.FieldType.object "java/lang/String")), Jvm.Cond.code ({ cls := "java/lang/StringLatin1", name := "canEncode", desc := "(C)Z" } : Jvm.MethodName) jdk_43_method_3_code (1 : Nat) (Option.some Jvm.ClassFile.FieldType.boolean), Jvm.Cond.code ({ cls := "java/lang/StringLatin1", name := "toBytes", desc := "(C)[B" } : Jvm.MethodName) jdk_43_method_46_code (1 : Nat) (Option.some (Jvm.ClassFile.FieldType.array Jvm.ClassFile.FieldType.byte)), Jvm.Cond.code ({ cls := "java/lang/String", name := "<init>", desc := "([BB)V" } : Jvm.MethodName) jdk_42_method_151_code (3 : Nat) (Option.none : Option Jvm.ClassFile.FieldType), Jvm.Cond.code ({ cls := "com/example/grantline/grantline/eval/CredentialTarget$Owner", name := "<init>", desc := "(Ljava/lang/String;Ljava/lang/String;)V" } : Jvm.MethodName) prog_25_method_1_code (3 : Nat) (Option.none : Option Jvm.ClassFile.FieldType), Jvm.Cond.code ({ cls := "java/lang/Record", name := "<init>", desc := "()V" } : Jvm.MethodName) jdk_30_method_1_code (1 : Nat) (Option.none : Option Jvm.ClassFile.FieldType), Jvm.Cond.code ({ cls := "com/example/grantline/grantline/eval/OwnerCoversPinLaw", name := "isAny", desc := "(Ljava/lang/String;)Z" } : Jvm.MethodName) method_5_code (1 : Nat) (Option.some Jvm.ClassFile.FieldType.boolean), Jvm.Cond.code ({ cls := "java/lang/String", name := "length", desc := "()I" } : Jvm.MethodName) jdk_42_method_54_code (1 : Nat) (Option.some Jvm.ClassFile.FieldType.int), Jvm.Cond.code ({ cls := "java/lang/String", name := "coder", desc := "()B" } : Jvm.MethodName) jdk_42_method_152_code (1 : Nat) (Option.some Jvm.ClassFile.FieldType.byte), Jvm.Cond.code ({ cls := "com/example/grantline/grantline/eval/OwnerCoversPinLaw", name := "same", desc := "(Ljava/lang/String;Ljava/lang/String;)Z" } : Jvm.MethodName) method_6_code (3 : Nat) (Option.some Jvm.ClassFile.FieldType.boolean), Jvm.Cond.code ({ cls := "com/example/grantline/grantline/eval/CredentialTarget$Owner", name := "covers", desc := "(Lcom/example/grantline/grantline/eval/CredentialTarget$Owner;)Z" } : Jvm.MethodName) prog_25_method_2_code (2 : Nat) (Option.some Jvm.ClassFile.FieldType.boolean), Jvm.Cond.code ({ cls := "java/lang/String", name := "equals", desc := "(Ljava/lang/Object;)Z" } : Jvm.MethodName) jdk_42_method_66_code (3 : Nat) (Option.some Jvm.ClassFile.FieldType.boolean), Jvm.Cond.code ({ cls := "java/lang/StringLatin1", name := "equals", desc := "([B[B)Z" } : Jvm.MethodName) jdk_43_method_13_code (3 : Nat) (Option.some Jvm.ClassFile.FieldType.boolean), Jvm.Cond.code ({ cls := "java/lang/String", name := "charAt", desc := "(I)C" } : Jvm.MethodName) jdk_42_method_56_code (2 : Nat) (Option.some Jvm.ClassFile.FieldType.char), Jvm.Cond.code ({ cls := "java/lang/String", name := "isLatin1", desc := "()Z" } : Jvm.MethodName) jdk_42_method_154_code (1 : Nat) (Option.some Jvm.ClassFile.FieldType.boolean), Jvm.Cond.code ({ cls := "java/lang/StringLatin1", name := "charAt", desc := "([BI)C" } : Jvm.MethodName) jdk_43_method_2_code (2 : Nat) (Option.some Jvm.ClassFile.FieldType.char), Jvm.Cond.code ({ cls := "java/lang/String", name := "checkIndex", desc := "(II)V" } : Jvm.MethodName) jdk_42_method_155_code (2 : Nat) (Option.none : Option Jvm.ClassFile.FieldType), Jvm.Cond.code ({ cls := "jdk/internal/util/Preconditions", name := "checkIndex", desc := "(IILjava/util/function/BiFunction;)I" } : Jvm.MethodName) jdk_41_method_11_code (3 : Nat) (Option.some Jvm.ClassFile.FieldType.int)]
set_option maxRecDepth 65536 in
theorem codes_eq : words1.filter isCode = codes1 := rfl
theorem w_codes : ∀ c ∈ words1.filter isCode, c.before args0 about1 = true := by
  rw [codes_eq]
  intro c hc
  simp only [codes1, List.mem_cons, List.not_mem_nil, or_false] at hc
  rcases hc with rfl | rfl | rfl | rfl | rfl | rfl | rfl | rfl | rfl | rfl | rfl | rfl | rfl | rfl | rfl | rfl | rfl | rfl | rfl | rfl | rfl | rfl | rfl | rfl | rfl | rfl | rfl
  · exact w_c0
  · exact w_c1
  · exact w_c2
  · exact w_c3
  · exact w_c4
  · exact w_c5
  · exact w_c6
  · exact w_c7
  · exact w_c8
  · exact w_c9
  · exact w_c10
  · exact w_c11
  · exact w_c12
  · exact w_c13
  · exact w_c14
  · exact w_c15
  · exact w_c16
  · exact w_c17
  · exact w_c18
  · exact w_c19
  · exact w_c20
  · exact w_c21
  · exact w_c22
  · exact w_c23
  · exact w_c24
  · exact w_c25
  · exact w_c26
set_option maxRecDepth 65536 in
theorem w_t1 : (words1.take 24).all (fun c => isCode c || c.before args0 about1) = true := by decide +kernel
set_option maxRecDepth 65536 in
theorem w_t2 : ((words1.drop 24).take 24).all (fun c => isCode c || c.before args0 about1) = true := by decide +kernel
set_option maxRecDepth 65536 in
theorem w_t3 : (((words1.drop 24).drop 24).take 24).all (fun c => isCode c || c.before args0 about1) = true := by decide +kernel
set_option maxRecDepth 65536 in
theorem w_t4 : ((((words1.drop 24).drop 24).drop 24).take 24).all (fun c => isCode c || c.before args0 about1) = true := by decide +kernel
set_option maxRecDepth 65536 in
theorem w_t5 : (((((words1.drop 24).drop 24).drop 24).drop 24).take 24).all (fun c => isCode c || c.before args0 about1) = true := by decide +kernel
set_option maxRecDepth 65536 in
theorem w_t6 : (((((words1.drop 24).drop 24).drop 24).drop 24).drop 24).all (fun c => isCode c || c.before args0 about1) = true := by decide +kernel
theorem w_tables : (allAtoms (Jvm.Cond.code x code maxLocals ret :: tables_1)).before args0 about1 = true := by
  rw [allAtoms_all]
  show words1.all (fun c => c.before args0 about1) = true
  refine all_split ?_ w_codes
  rw [← List.take_append_drop 24 words1, List.all_append, w_t1, ← List.take_append_drop 24 (words1.drop 24), List.all_append, w_t2, ← List.take_append_drop 24 ((words1.drop 24).drop 24), List.all_append, w_t3, ← List.take_append_drop 24 (((words1.drop 24).drop 24).drop 24), List.all_append, w_t4, ← List.take_append_drop 24 ((((words1.drop 24).drop 24).drop 24).drop 24), List.all_append, w_t5, w_t6]
  rfl
set_option maxRecDepth 65536 in
theorem w_rest : rest_1_c.before args0 about1 = true := by decide +kernel
set_option maxRecDepth 65536 in
theorem w_case : (Jvm.Cond.and given_1 narrow_1).before args0 about1 = true := by decide +kernel
set_option maxRecDepth 65536 in
theorem w_consts : constsHeld consts_1 about1 := Jvm.Lit.constsHeldB_iff.mp (by decide +kernel)
theorem w_applies : (headSpec (Jvm.Cond.code x code maxLocals ret :: tables_1) room_1).applies x e0.platform about1 = true :=
  (Spec.applies_iff w_frames).mpr ⟨w_running, w_runnable, w_alone, w_named, w_hears, w_ripe, w_room, w_tables⟩
theorem atStart : AtStart classFile x code maxLocals ret World_1 tables_1 room_1 Calls_1 rest_1 Pre_1 launch0 p0 e0 about1 theMethod args0 below0 :=
  ⟨lists_1, trivial, launch0.admits_env _ _ _, launch0.least_env, fairChoices_fair.cas, fairChoices_fair.clock, w_frames, w_args, w_heap, w_applies, ⟨w_consts, trivial⟩, w_rest, w_case⟩
end start1
theorem witness_1 : WitnessClaimed_1 := ⟨start1.p0, start1.e0, start1.about1, start1.theMethod, start1.args0, start1.below0, start1.atStart⟩
end Jvm.Pilot.@@N@@
