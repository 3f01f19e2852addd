import JvmDerived
import JvmDerived.Pilot.@@N@@Statement
import JvmDerived.Pilot.@@N@@Code
set_option linter.unusedVariables false
set_option linter.unusedSimpArgs false
namespace Jvm.Pilot.@@N@@
open Jvm Jvm.ClassFile Sem Op Lib Jvm.Free Jvm.Stand Jvm.LawKit Jvm.RoadKit Bundle Jvm.Pilot.@@N@@.Jvm.D
section OwnKit
variable {p : Program} {l : Launch} {e : Env} {R : Room} {s : State} {m : MethodId} {args : Array Value} {below : List Frame} {meth : Method} {c : Code} {T : State} {locs : List Loc} {cells slots : Nat} {Z : State} {a0 : Array Value} {h : Heap}
/-- the run from t ends, and Q holds of its end -/
def own_Fin (tb : Tables) (e : Env) (below : List Frame) (Q : Outcome → State → Prop) (t : State) : Prop := ∃ s₂ o, Steps tb e below t s₂ ∧ s₂.status = .running ∧ Ended s₂ below o ∧ Q o s₂
theorem own_go {tb : Tables} {Q : Outcome → State → Prop} {t t' : State} (k : ∀ z, Steps tb e below t' z → Steps tb e below t z) (f : own_Fin tb e below Q t') : own_Fin tb e below Q t := by
  obtain ⟨s₂, o, h1, h2⟩ := f
  exact ⟨s₂, o, k _ h1, h2⟩
/-- the run from t comes to a state of which G holds -/
def own_Go (tb : Tables) (e : Env) (below : List Frame) (G : State → Prop) (t : State) : Prop := ∃ t', G t' ∧ ∀ z, Steps tb e below t' z → Steps tb e below t z
theorem own_on {tb : Tables} {G : State → Prop} {t t' : State} (k : ∀ z, Steps tb e below t' z → Steps tb e below t z) (f : own_Go tb e below G t') : own_Go tb e below G t := by
  obtain ⟨t₂, h1, h2⟩ := f
  exact ⟨t₂, h1, fun z q => k z (h2 z q)⟩
theorem own_here {tb : Tables} {G : State → Prop} {t : State} (k : G t) : own_Go tb e below G t := ⟨t, k, fun _ q => q⟩
def own_End (s : State) (Q : Option Value → Heap → List Loc → Prop) (C S : Nat) (o : Outcome) (U : State) : Prop := ∃ v L, o = .returned v ∧ Q v U.heap L ∧ FrameEnd s o U L C S
variable {Q : Option Value → Heap → List Loc → Prop} {C S : Nat}
theorem own_retI (X : Stand p l e R s m args below meth c T locs cells slots) (hx : p.tables.exec = Jvm.exec) (hlk : meth.locks = false) {pc : Nat} {Ls : Array Slot} {z : Int32} {rest : List Value} (hret : meth.sig.returnType = some .int) (hd : decode c.code pc = .ok (.ireturn, 1)) (hq : Q (some (.int z)) T.heap locs) (hC : cells ≤ C) (hS : slots ≤ S) :
    own_Fin p.tables e below (own_End s Q C S) (T.setTop (mkF m pc Ls (.int z :: rest))) := by
  obtain ⟨fs, hr, hrun, hended, hW, hsame⟩ := X.leave (v := some (.int z)) (fun h => by rw [hret] at h; cases h) hlk
  exact ⟨_, _, retOut X hx hret rfl (Or.inl ⟨rfl, Or.inl rfl, _, rfl⟩) hd hr, hrun, hended, _, _, rfl, hq, ⟨_, rfl⟩, hW, hsame.mono hC hS⟩
theorem own_retN (X : Stand p l e R s m args below meth c T locs cells slots) (hx : p.tables.exec = Jvm.exec) (hlk : meth.locks = false) {pc : Nat} {Ls : Array Slot} {z : Int32} {rest : List Value} {t : FieldType} (hret : meth.sig.returnType = some t) (ht : t = .boolean ∨ t = .byte ∨ t = .char ∨ t = .short) (hd : decode c.code pc = .ok (.ireturn, 1)) (hq : Q (some (.int (nar t z))) T.heap locs) (hC : cells ≤ C) (hS : slots ≤ S) :
    own_Fin p.tables e below (own_End s Q C S) (T.setTop (mkF m pc Ls (.int z :: rest))) := by
  obtain ⟨fs, hr, hrun, hended, hW, hsame⟩ := X.leave (v := some (.int (nar t z))) (fun h => by rw [hret] at h; cases h) hlk
  exact ⟨_, _, retN X hx hret ht hd hr, hrun, hended, _, _, rfl, hq, ⟨_, rfl⟩, hW, hsame.mono hC hS⟩
theorem own_retJ (X : Stand p l e R s m args below meth c T locs cells slots) (hx : p.tables.exec = Jvm.exec) (hlk : meth.locks = false) {pc : Nat} {Ls : Array Slot} {z : Int64} {rest : List Value} (hret : meth.sig.returnType = some .long) (hd : decode c.code pc = .ok (.lreturn, 1)) (hq : Q (some (.long z)) T.heap locs) (hC : cells ≤ C) (hS : slots ≤ S) :
    own_Fin p.tables e below (own_End s Q C S) (T.setTop (mkF m pc Ls (.long z :: rest))) := by
  obtain ⟨fs, hr, hrun, hended, hW, hsame⟩ := X.leave (v := some (.long z)) (fun h => by rw [hret] at h; cases h) hlk
  exact ⟨_, _, retOut X hx hret rfl (Or.inr (Or.inl ⟨rfl, rfl, _, rfl⟩)) hd hr, hrun, hended, _, _, rfl, hq, ⟨_, rfl⟩, hW, hsame.mono hC hS⟩
theorem own_retA (X : Stand p l e R s m args below meth c T locs cells slots) (hx : p.tables.exec = Jvm.exec) (hlk : meth.locks = false) {pc : Nat} {Ls : Array Slot} {w : Value} {rest : List Value} {t : FieldType} (hret : meth.sig.returnType = some t) (ht : t.isReference = true) (hw : w.isRef = true) (hd : decode c.code pc = .ok (.areturn, 1)) (hq : Q (some w) T.heap locs) (hC : cells ≤ C) (hS : slots ≤ S) :
    own_Fin p.tables e below (own_End s Q C S) (T.setTop (mkF m pc Ls (w :: rest))) := by
  obtain ⟨fs, hr, hrun, hended, hW, hsame⟩ := X.leave (v := some w) (fun h => by rw [hret] at h; cases h) hlk
  have hn : narrow t w = w := by cases t <;> first | (cases ht; done) | (cases w <;> first | (cases hw; done) | rfl)
  exact ⟨_, _, retOut X hx hret hn (Or.inr (Or.inr (Or.inr (Or.inr ⟨rfl, ht, hw⟩)))) hd hr, hrun, hended, _, _, rfl, hq, ⟨_, rfl⟩, hW, hsame.mono hC hS⟩
theorem own_retV (X : Stand p l e R s m args below meth c T locs cells slots) (hx : p.tables.exec = Jvm.exec) (hlk : meth.locks = false) {pc : Nat} {Ls : Array Slot} (hret : meth.sig.returnType = none) (hd : decode c.code pc = .ok (.return_, 1)) (hq : Q none T.heap locs) (hC : cells ≤ C) (hS : slots ≤ S) :
    own_Fin p.tables e below (own_End s Q C S) (T.setTop (mkF m pc Ls [])) := by
  obtain ⟨fs, hr, hrun, hended, hW, hsame⟩ := X.leave (v := none) (fun _ => rfl) hlk
  exact ⟨_, _, X.returnOut hx hret hd hr, hrun, hended, _, _, rfl, hq, ⟨_, rfl⟩, hW, hsame.mono hC hS⟩
/-- what a body's contract says: called with as' at the heap h0 it returns, and Q holds of what it returns, of the heap and of the places written -/
def own_Met (l : Launch) (y : MethodName) (bytes : ByteArray) (maxL : Nat) (ret : Option FieldType) (rm : Room) (ws : List Jvm.Cond) (as' : Array Value) (Z : State) (h0 : Heap) (C S : Nat) (Q : Option Value → Heap → List Loc → Prop) : Prop :=
  MetFree l y (head1 (Jvm.Cond.code y bytes maxL ret :: ws) rm) (fun a U => a = as' ∧ Z.Warmed39 U.vm ∧ U.heap = h0) (fun _ _ _ _ _ => True) (fun _ U o U' => ∃ v L, o = .returned v ∧ Q v U'.heap L ∧ FrameEnd U o U' L C S)
theorem own_met {y : MethodName} {bytes : ByteArray} {maxL : Nat} {ret : Option FieldType} {rm : Room} {ws : List Jvm.Cond} {as' : Array Value} {h0 : Heap} (hy : plainFor y = true)
    (body : ∀ (p : Program) (e : Env) (s : State) (m : MethodId) (below : List Frame) (meth : Method) (c : Code) (s₁ : State), p.tables.exec = Jvm.exec → c.code = bytes → c.maxLocals = maxL → s.vm.findClass y.cls = some m.cls → meth.name = y.name → meth.sig.returnType = ret → meth.locks = false → Z.Warmed39 s.vm → s₁.heap = h0 → Stand p l e rm s m as' below meth c s₁ [] 0 0 → own_Fin p.tables e below (own_End s Q C S) (s₁.setTop (entryFrame m as' maxL))) :
    own_Met l y bytes maxL ret rm ws as' Z h0 C S Q := by
  refine MetFree.of_bodySF hy hisR ?_
  intro p e s m args below meth c s₁ Bd hml0 hP hK
  obtain ⟨rfl, hZ, hh⟩ := hP
  have X0 : Stand p l e rm s m args below meth c s₁ [] 0 0 := Stand.of_body Bd
  exact body p e s m below meth c s₁ Bd.exec Bd.bytes hml0 (findClass_of_methodNamed Bd.named) (name_of_methodNamed Bd.named Bd.method).1 Bd.returns Bd.notSynchronized hZ (by rw [← hh, Bd.state]; rfl) X0
section Calls
variable {own : String} {index : Nat} {y : MethodName} {bytes : ByteArray} {maxL : Nat} {ret : Option FieldType} {rm : Room} {as' : Array Value}
theorem own_callS (X : Stand p l e R s m args below meth c T locs cells slots) (hx : p.tables.exec = Jvm.exec) (hZ : Z.Warmed39 s.vm) (hown : s.vm.findClass own = some m.cls) (w1 : (Jvm.Cond.methodLink own index y).before a0 Z = true) (w2 : (Jvm.Cond.static y).before a0 Z = true) (w3 : (Jvm.Cond.initialized y.cls).before a0 Z = true) (w4 : (Jvm.Cond.code y bytes maxL ret).before a0 Z = true)
    (hy : y.cls ≠ "java/lang/invoke/MethodHandle" ∧ y.cls ≠ "java/lang/invoke/VarHandle") {W : Nat} (hM : own_Met l y bytes maxL ret rm [] as' Z h rm.cells rm.slots Q) (hf : rm.frames + 1 ≤ R.frames) (hl : W + (maxL + 11) + rm.locals ≤ R.locals) (eT : T.heap = h)
    {g : JFrame} (hg : g.method = m) (hsize : g.locals.size = c.maxLocals) {argsL rest : List Value} (has : argsL.toArray = as') (hlen : ∀ sig, parseMethodDescriptor y.desc = some sig → argsL.length = sig.parameters.length)
    (hstack : g.stack = argsL.reverse ++ rest) (hW : 2 * g.monitorRoom + (rest.map fun v => v.category).sum ≤ W) (hdg : decode c.code g.pc = .ok (.invokestatic index, 3)) (hc : cells + rm.cells ≤ R.cells) (hs : slots + rm.slots ≤ R.slots) :
    ∃ (v : Option Value) (T' : State) (L' : List Loc), Stand p l e R s m args below meth c T' (locs ++ L') (cells + rm.cells) (slots + rm.slots) ∧ Q v T'.heap L' ∧
      ∀ t, Steps p.tables e below (T'.setTop { g with pc := g.pc + 3, stack := v.toList ++ rest }) t → Steps p.tables e below (T.setTop g) t := by
  obtain ⟨v, vm1, ⟨T', L, k, n⟩, -, X', ⟨L', hQ, e1, e2, e3⟩, st⟩ := Jvm.LawKit.callS X hx hown (mvT hZ w1) (mvT hZ w2) (mvT hZ w3) (mvT hZ w4) hy (backOf (W := W) hM hZ w4 w3 hf hl) hg hsize hlen hstack hW hdg (fun _ _ => ⟨has, eT, hc, hs⟩)
  dsimp only [Pt.U, Pt.locs, Pt.cells, Pt.slots] at X' e1 e2 e3 st hQ
  subst e1 e2 e3
  exact ⟨v, T', L', X', hQ, st⟩
theorem own_callC (X : Stand p l e R s m args below meth c T locs cells slots) (hx : p.tables.exec = Jvm.exec) (hZ : Z.Warmed39 s.vm) (hown : s.vm.findClass own = some m.cls) (hnm : y.name = "<init>") (w1 : (Jvm.Cond.methodLink own index y).before a0 Z = true) (w2 : (Jvm.Cond.instanceMethod y).before a0 Z = true) (w3 : (Jvm.Cond.initialized y.cls).before a0 Z = true) (w4 : (Jvm.Cond.code y bytes maxL none).before a0 Z = true)
    (hy : y.cls ≠ "java/lang/invoke/MethodHandle" ∧ y.cls ≠ "java/lang/invoke/VarHandle") {W : Nat} (hM : own_Met l y bytes maxL none rm [] as' Z h rm.cells rm.slots Q) (hf : rm.frames + 1 ≤ R.frames) (hl : W + (maxL + 11) + rm.locals ≤ R.locals) (eT : T.heap = h)
    {g : JFrame} (hg : g.method = m) (hsize : g.locals.size = c.maxLocals) {a : Addr} {argsL rest : List Value} (has : (.ref a :: argsL).toArray = as') (hlen : ∀ sig, parseMethodDescriptor y.desc = some sig → argsL.length = sig.parameters.length)
    (hstack : g.stack = argsL.reverse ++ .ref a :: rest) (hW : 2 * g.monitorRoom + (rest.map fun v => v.category).sum ≤ W) (hdg : decode c.code g.pc = .ok (.invokespecial index, 3)) (hc : cells + rm.cells ≤ R.cells) (hs : slots + rm.slots ≤ R.slots) :
    ∃ (v : Option Value) (T' : State) (L' : List Loc), Stand p l e R s m args below meth c T' (locs ++ L') (cells + rm.cells) (slots + rm.slots) ∧ Q v T'.heap L' ∧
      ∀ t, Steps p.tables e below (T'.setTop { g with pc := g.pc + 3, stack := v.toList ++ rest }) t → Steps p.tables e below (T.setTop g) t := by
  obtain ⟨v, vm1, ⟨T', L, k, n⟩, -, X', ⟨L', hQ, e1, e2, e3⟩, st⟩ := X.specialBack hx hnm hown (mvT hZ w1) (mvT hZ w2) (mvT hZ w4) hy (backOf (W := W) hM hZ w4 w3 hf hl) hg hsize (Steps.refl _) hlen hstack hW hdg (fun _ _ => ⟨has, eT, hc, hs⟩)
  dsimp only [Pt.U, Pt.locs, Pt.cells, Pt.slots] at X' e1 e2 e3 st hQ
  subst e1 e2 e3
  exact ⟨v, T', L', X', hQ, fun _ k => st.trans k⟩
theorem own_callV (X : Stand p l e R s m args below meth c T locs cells slots) (hx : p.tables.exec = Jvm.exec) (hZ : Z.Warmed39 s.vm) (hown : s.vm.findClass own = some m.cls) {D : String} (w1 : (Jvm.Cond.methodLink own index y).before a0 Z = true) (w2 : (Jvm.Cond.declares y).before a0 Z = true) (w3 : (Jvm.Cond.selects D y y).before a0 Z = true) (w4 : (Jvm.Cond.instanceMethod y).before a0 Z = true) (w5 : (Jvm.Cond.initialized y.cls).before a0 Z = true) (w6 : (Jvm.Cond.code y bytes maxL ret).before a0 Z = true)
    (hy : y.cls ≠ "java/lang/invoke/MethodHandle" ∧ y.cls ≠ "java/lang/invoke/VarHandle") {W : Nat} (hM : own_Met l y bytes maxL ret rm [] as' Z h rm.cells rm.slots Q) (hf : rm.frames + 1 ≤ R.frames) (hl : W + (maxL + 11) + rm.locals ≤ R.locals) (eT : T.heap = h) {a : Addr} (E : Exa Z h a D)
    {g : JFrame} (hg : g.method = m) (hsize : g.locals.size = c.maxLocals) {argsL rest : List Value} (has : (.ref a :: argsL).toArray = as') (hlen : ∀ sig, parseMethodDescriptor y.desc = some sig → argsL.length = sig.parameters.length)
    (hstack : g.stack = argsL.reverse ++ .ref a :: rest) (hW : 2 * g.monitorRoom + (rest.map fun v => v.category).sum ≤ W) (hdg : decode c.code g.pc = .ok (.invokevirtual index, 3)) (hc : cells + rm.cells ≤ R.cells) (hs : slots + rm.slots ≤ R.slots) :
    ∃ (v : Option Value) (T' : State) (L' : List Loc), Stand p l e R s m args below meth c T' (locs ++ L') (cells + rm.cells) (slots + rm.slots) ∧ Q v T'.heap L' ∧
      ∀ t, Steps p.tables e below (T'.setTop { g with pc := g.pc + 3, stack := v.toList ++ rest }) t → Steps p.tables e below (T.setTop g) t := by
  obtain ⟨cq, kq, qa, qb, qc⟩ := isOf hZ eT E
  obtain ⟨v, vm1, ⟨T', L, k, n⟩, -, X', ⟨L', hQ, e1, e2, e3⟩, st⟩ := X.virtualBack hx hown (mvT hZ w1) (mvT hZ w2) (notFace_of_selects (args := #[]) (mvT hZ w3)) (mvT hZ w3) (mvT hZ w4) hy (backOf (W := W) hM hZ w6 w5 hf hl) qa qc hg hsize (Steps.refl _) hlen hstack hW hdg (fun _ _ => ⟨has, eT, hc, hs⟩)
  dsimp only [Pt.U, Pt.locs, Pt.cells, Pt.slots] at X' e1 e2 e3 st hQ
  subst e1 e2 e3
  exact ⟨v, T', L', X', hQ, fun _ k => st.trans k⟩
/-- as own_callC, own_callV, where who pays is given -/
theorem own_callCB (X : Stand p l e R s m args below meth c T locs cells slots) (hx : p.tables.exec = Jvm.exec) (hZ : Z.Warmed39 s.vm) (hown : s.vm.findClass own = some m.cls) (hnm : y.name = "<init>") (w1 : (Jvm.Cond.methodLink own index y).before a0 Z = true) (w2 : (Jvm.Cond.instanceMethod y).before a0 Z = true) (w4 : (Jvm.Cond.code y bytes maxL none).before a0 Z = true)
    (hy : y.cls ≠ "java/lang/invoke/MethodHandle" ∧ y.cls ≠ "java/lang/invoke/VarHandle") {W kc kn : Nat} (hK : Back l R p e below s args y 3 W (fun P a => a = as' ∧ P.U.heap = h ∧ P.cells + kc ≤ R.cells ∧ P.slots + kn ≤ R.slots) (fun P _ v B => ∃ L, Q v B.U.heap L ∧ B.locs = P.locs ++ L ∧ B.cells = P.cells + kc ∧ B.slots = P.slots + kn)) (eT : T.heap = h)
    {g : JFrame} (hg : g.method = m) (hsize : g.locals.size = c.maxLocals) {a : Addr} {argsL rest : List Value} (has : (.ref a :: argsL).toArray = as') (hlen : ∀ sig, parseMethodDescriptor y.desc = some sig → argsL.length = sig.parameters.length)
    (hstack : g.stack = argsL.reverse ++ .ref a :: rest) (hW : 2 * g.monitorRoom + (rest.map fun v => v.category).sum ≤ W) (hdg : decode c.code g.pc = .ok (.invokespecial index, 3)) (hc : cells + kc ≤ R.cells) (hs : slots + kn ≤ R.slots) :
    ∃ (v : Option Value) (T' : State) (L' : List Loc), Stand p l e R s m args below meth c T' (locs ++ L') (cells + kc) (slots + kn) ∧ Q v T'.heap L' ∧
      ∀ t, Steps p.tables e below (T'.setTop { g with pc := g.pc + 3, stack := v.toList ++ rest }) t → Steps p.tables e below (T.setTop g) t := by
  obtain ⟨v, vm1, ⟨T', L, k, n⟩, -, X', ⟨L', hQ, e1, e2, e3⟩, st⟩ := X.specialBack hx hnm hown (mvT hZ w1) (mvT hZ w2) (mvT hZ w4) hy hK hg hsize (Steps.refl _) hlen hstack hW hdg (fun _ _ => ⟨has, eT, hc, hs⟩)
  dsimp only [Pt.U, Pt.locs, Pt.cells, Pt.slots] at X' e1 e2 e3 st hQ
  subst e1 e2 e3
  exact ⟨v, T', L', X', hQ, fun _ k => st.trans k⟩
theorem own_callVB (X : Stand p l e R s m args below meth c T locs cells slots) (hx : p.tables.exec = Jvm.exec) (hZ : Z.Warmed39 s.vm) (hown : s.vm.findClass own = some m.cls) {D : String} (w1 : (Jvm.Cond.methodLink own index y).before a0 Z = true) (w2 : (Jvm.Cond.declares y).before a0 Z = true) (w3 : (Jvm.Cond.selects D y y).before a0 Z = true) (w4 : (Jvm.Cond.instanceMethod y).before a0 Z = true)
    (hy : y.cls ≠ "java/lang/invoke/MethodHandle" ∧ y.cls ≠ "java/lang/invoke/VarHandle") {W kc kn : Nat} {Qb : Option Value → State → List Loc → Prop} (hK : Back l R p e below s args y 3 W (fun P a => a = as' ∧ P.U.heap = h ∧ P.cells + kc ≤ R.cells ∧ P.slots + kn ≤ R.slots) (fun P _ v B => ∃ L, Qb v B.U L ∧ B.locs = P.locs ++ L ∧ B.cells = P.cells + kc ∧ B.slots = P.slots + kn)) (eT : T.heap = h) {a : Addr} (E : Exa Z h a D)
    {g : JFrame} (hg : g.method = m) (hsize : g.locals.size = c.maxLocals) {argsL rest : List Value} (has : (.ref a :: argsL).toArray = as') (hlen : ∀ sig, parseMethodDescriptor y.desc = some sig → argsL.length = sig.parameters.length)
    (hstack : g.stack = argsL.reverse ++ .ref a :: rest) (hW : 2 * g.monitorRoom + (rest.map fun v => v.category).sum ≤ W) (hdg : decode c.code g.pc = .ok (.invokevirtual index, 3)) (hc : cells + kc ≤ R.cells) (hs : slots + kn ≤ R.slots) :
    ∃ (v : Option Value) (T' : State) (L' : List Loc), Stand p l e R s m args below meth c T' (locs ++ L') (cells + kc) (slots + kn) ∧ Qb v T' L' ∧
      ∀ t, Steps p.tables e below (T'.setTop { g with pc := g.pc + 3, stack := v.toList ++ rest }) t → Steps p.tables e below (T.setTop g) t := by
  obtain ⟨cq, kq, qa, qb, qc⟩ := isOf hZ eT E
  obtain ⟨v, vm1, ⟨T', L, k, n⟩, -, X', ⟨L', hQ, e1, e2, e3⟩, st⟩ := X.virtualBack hx hown (mvT hZ w1) (mvT hZ w2) (notFace_of_selects (args := #[]) (mvT hZ w3)) (mvT hZ w3) (mvT hZ w4) hy hK qa qc hg hsize (Steps.refl _) hlen hstack hW hdg (fun _ _ => ⟨has, eT, hc, hs⟩)
  dsimp only [Pt.U, Pt.locs, Pt.cells, Pt.slots] at X' e1 e2 e3 st hQ
  subst e1 e2 e3
  exact ⟨v, T', L', X', hQ, fun _ k => st.trans k⟩
end Calls
section Arrays
variable {a : Addr} {k : ClassId} {ty : FieldType} {z : Int32} {vs : List Value} {dv : Value}
theorem own_alen (X : Stand p l e R s m args below meth c T locs cells slots) (hx : p.tables.exec = Jvm.exec) (hZ : Z.Warmed39 s.vm) (eT : T.heap = h) (V : Arv Z h a k ty z vs dv) {g : JFrame} (hg : g.method = m) {rest : List Value} (hs : g.stack = .ref a :: rest) (hd : decode c.code g.pc = .ok (.arraylength, 1)) {target : State}
    (hr : Steps p.tables e below (T.setTop { g with pc := g.pc + 1, stack := .int z :: rest }) target) : Steps p.tables e below (T.setTop g) target := by
  obtain ⟨cl, Ar, -, S, M, -, -⟩ := V
  refine X.arraylength hx (cell := cl) (by rw [eT]; exact Ar.1) (State.isArrayOf_alike hZ.alike Ar.2.1) hg hs hd _ ?_
  rw [len_of S M]; exact hr
theorem own_aald {C : String} (X : Stand p l e R s m args below meth c T locs cells slots) (hx : p.tables.exec = Jvm.exec) (hZ : Z.Warmed39 s.vm) (eT : T.heap = h) (V : Arv Z h a k (.object C) z vs dv) {j : Int32} (h1 : ¬ j < 0) (h2 : j < z) {g : JFrame} (hg : g.method = m) {rest : List Value} (hs : g.stack = .int j :: .ref a :: rest) (hd : decode c.code g.pc = .ok (.aaload, 1)) {target : State}
    (hr : Steps p.tables e below (T.setTop { g with pc := g.pc + 1, stack := vs.getD j.toNatClampNeg dv :: rest }) target) : Steps p.tables e below (T.setTop g) target := by
  obtain ⟨cl, Ar, -, S, M, H, -⟩ := V
  have hin := inb_of S ⟨h1, h2⟩
  exact X.aaload hx (j := j) (v := vs.getD j.toNatClampNeg dv) (by rw [eT]; exact Ar.1) (State.isArrayOf_alike hZ.alike Ar.2.1) rfl Ar.2.2 hin (Has.at H hin rfl) hg hs hd _ hr
end Arrays
/-- a body that returns r and leaves the heap as it was -/
def own_QP (r : Option Value) (h0 : Heap) (n0 : Nat) (v : Option Value) (h : Heap) (L : List Loc) : Prop := v = r ∧ Fr n0 L ∧ h = h0
end OwnKit
def own_vs (r1 r2 r3 r4 r5 r6 r7 : Addr) : List Value := [.null, .ref r1, .ref r2, .ref r3, .ref r4, .ref r5, .ref r6, .ref r7]
def own_at (r1 r2 r3 r4 r5 r6 r7 : Addr) (i : Int32) : Value := (own_vs r1 r2 r3 r4 r5 r6 r7).getD i.toNatClampNeg .null
theorem own_at_ref (r1 r2 r3 r4 r5 r6 r7 : Addr) (i : Int32) : (own_at r1 r2 r3 r4 r5 r6 r7 i).isRef = true := by
  unfold own_at own_vs
  generalize i.toNatClampNeg = n
  match n with
  | 0 | 1 | 2 | 3 | 4 | 5 | 6 | 7 => rfl
  | n + 8 => rfl
theorem d1_0 : decode prog_24_method_5_code 0 = .ok (.iload_n 0, 1) := by decide +kernel
theorem d1_1 : decode prog_24_method_5_code 1 = .ok (.getstatic 81, 3) := by decide +kernel
theorem d1_4 : decode prog_24_method_5_code 4 = .ok (.arraylength, 1) := by decide +kernel
theorem d1_5 : decode prog_24_method_5_code 5 = .ok (.if_icmp .ge 11, 3) := by decide +kernel
theorem d1_8 : decode prog_24_method_5_code 8 = .ok (.getstatic 81, 3) := by decide +kernel
theorem d1_11 : decode prog_24_method_5_code 11 = .ok (.iload_n 0, 1) := by decide +kernel
theorem d1_12 : decode prog_24_method_5_code 12 = .ok (.aaload, 1) := by decide +kernel
theorem d1_13 : decode prog_24_method_5_code 13 = .ok (.goto 4, 3) := by decide +kernel
theorem d1_16 : decode prog_24_method_5_code 16 = .ok (.aconst_null, 1) := by decide +kernel
theorem d1_17 : decode prog_24_method_5_code 17 = .ok (.areturn, 1) := by decide +kernel
theorem pn0 : plainName "com/example/envelope/envelope/ProtobufFields$ValueCase" = true := by first | (simp [plainName, overriddenIn]; done) | decide +kernel
theorem pd0 : parseMethodDescriptor "(I)Lcom/example/envelope/envelope/ProtobufFields$ValueCase;" = some ⟨[.int], some (.object "com/example/envelope/envelope/ProtobufFields$ValueCase")⟩ := by decide +kernel
theorem ef1 (m : MethodId) (i1 : Int32) : entryFrame m #[(.int i1)] 1 = mkF m 0 #[.val (.int i1)] [] := by first | (simp [entryFrame, mkF, argsToLocals, Value.category]; done) | rfl
def f1 (r1 : Addr) (r2 : Addr) (r3 : Addr) (r4 : Addr) (r5 : Addr) (r6 : Addr) (r7 : Addr) (i1 : Int32) : Value := (if i1 < (8 : Int32) then (own_at r1 r2 r3 r4 r5 r6 r7 i1) else .null)
theorem own_f1_ref (r1 r2 r3 r4 r5 r6 r7 : Addr) (i : Int32) : (f1 r1 r2 r3 r4 r5 r6 r7 i).isRef = true := by
  unfold f1
  split
  · exact own_at_ref r1 r2 r3 r4 r5 r6 r7 i
  · rfl
set_option maxRecDepth 65536 in
set_option maxHeartbeats 40000000 in
theorem rm1 (l : Launch) (Z : State) (a0 : Array Value) (hw : ∀ d ∈ tables_1, d.before a0 Z = true) (ws : List Jvm.Cond) (i1 : Int32) (h0 : Heap) (n0 : Nat) (Z0 : n0 ≤ h0.size) (r1 : Addr) (r2 : Addr) (r3 : Addr) (r4 : Addr) (r5 : Addr) (r6 : Addr) (r7 : Addr) (ra : Addr) (ka : ClassId) (SA : Sta Z h0 "com/example/envelope/envelope/ProtobufFields$ValueCase" "BY_NUMBER" "[Lcom/example/envelope/envelope/ProtobufFields$ValueCase;" (.ref ra)) (VA : Arv Z h0 ra ka (.object "com/example/envelope/envelope/ProtobufFields$ValueCase") (8 : Int32) (own_vs r1 r2 r3 r4 r5 r6 r7) .null) (hA : ¬ i1 < (0 : Int32)) :
    own_Met l (⟨"com/example/envelope/envelope/ProtobufFields$ValueCase", "ofNumber", "(I)Lcom/example/envelope/envelope/ProtobufFields$ValueCase;"⟩ : MethodName) prog_24_method_5_code 1 (some (.object "com/example/envelope/envelope/ProtobufFields$ValueCase")) ({ frames := 0, cells := 0, slots := 0, locals := 0 } : Room) ws #[(.int i1)] Z h0 0 0 (own_QP (some (f1 r1 r2 r3 r4 r5 r6 r7 i1)) h0 n0) := by
  refine own_met (plainFor_of_name pn0) ?_
  intro p e s m below meth c s₁ hx hby hml hown hnm hret hlk hZ e0 X0
  have hml : c.maxLocals = 1 := hml
  have N0 := Fr.nil n0
  have K0 := Keep.refl h0 []
  refine own_go (fun _ k => castTop (ef1 m i1) k) ?_
  show own_Fin p.tables e below _ (s₁.setTop (mkF m 0 #[.val (.int i1)] []))
  refine own_go (fun _ k => XS.iloadN X0.here hx rfl (hb hby d1_0) rfl k) ?_
  show own_Fin p.tables e below _ (s₁.setTop (mkF m 1 #[.val (.int i1)] [(.int i1)]))
  obtain ⟨T1, X1, e1, st1⟩ := getS (host := "") X0 hx hZ hown (hw _ (List.mem_of_getElem? (i := 5) rfl)) Via.refl e0 SA (g := (mkF m 1 #[.val (.int i1)] [(.int i1)])) rfl (hb hby d1_1)
  refine own_go st1 ?_
  show own_Fin p.tables e below _ (T1.setTop (mkF m 4 #[.val (.int i1)] [(.ref ra), (.int i1)]))
  refine own_go (fun _ k => own_alen X1 hx hZ e1 VA (g := (mkF m 4 #[.val (.int i1)] [(.ref ra), (.int i1)])) rfl (rest := [(.int i1)]) rfl (hb hby d1_4) k) ?_
  show own_Fin p.tables e below _ (T1.setTop (mkF m 5 #[.val (.int i1)] [(.int (8 : Int32)), (.int i1)]))
  by_cases hc2 : i1 < (8 : Int32)
  · refine own_go (fun _ k => XS.icmpNo X1.here hx rfl (hb hby d1_5) rfl (XT.ii_ge_f hc2) k) ?_
    show own_Fin p.tables e below _ (T1.setTop (mkF m 8 #[.val (.int i1)] []))
    obtain ⟨T3, X3, e3, st3⟩ := getS (host := "") X1 hx hZ hown (hw _ (List.mem_of_getElem? (i := 5) rfl)) Via.refl e1 SA (g := (mkF m 8 #[.val (.int i1)] [])) rfl (hb hby d1_8)
    refine own_go st3 ?_
    show own_Fin p.tables e below _ (T3.setTop (mkF m 11 #[.val (.int i1)] [(.ref ra)]))
    refine own_go (fun _ k => XS.iloadN X3.here hx rfl (hb hby d1_11) rfl k) ?_
    show own_Fin p.tables e below _ (T3.setTop (mkF m 12 #[.val (.int i1)] [(.int i1), (.ref ra)]))
    refine own_go (fun _ k => own_aald X3 hx hZ e3 VA hA hc2 (g := (mkF m 12 #[.val (.int i1)] [(.int i1), (.ref ra)])) rfl (rest := []) rfl (hb hby d1_12) k) ?_
    show own_Fin p.tables e below _ (T3.setTop (mkF m 13 #[.val (.int i1)] [(own_at r1 r2 r3 r4 r5 r6 r7 i1)]))
    refine own_go (fun _ k => XS.goto X3.here hx rfl (pc0 := 13) (pc' := 17) rfl (hb hby d1_13) (by decide) (by decide) k) ?_
    show own_Fin p.tables e below _ (T3.setTop (mkF m 17 #[.val (.int i1)] [(own_at r1 r2 r3 r4 r5 r6 r7 i1)]))
    refine own_retA X3 hx hlk hret rfl (own_at_ref r1 r2 r3 r4 r5 r6 r7 i1) (hb hby d1_17) ?_ (by decide) (by decide)
    exact ⟨by rw [show f1 r1 r2 r3 r4 r5 r6 r7 i1 = (own_at r1 r2 r3 r4 r5 r6 r7 i1) from by simp only [f1, if_pos hc2]] <;> rfl, N0, e3⟩
  · refine own_go (fun _ k => XS.icmpYes X1.here hx rfl (pc0 := 5) (pc' := 16) rfl (hb hby d1_5) rfl (XT.ii_ge_t hc2) (by decide) (by decide) k) ?_
    show own_Fin p.tables e below _ (T1.setTop (mkF m 16 #[.val (.int i1)] []))
    refine own_go (fun _ k => XS.aconstNull X1.here hx rfl (hb hby d1_16) k) ?_
    show own_Fin p.tables e below _ (T1.setTop (mkF m 17 #[.val (.int i1)] [.null]))
    refine own_retA X1 hx hlk hret rfl rfl (hb hby d1_17) ?_ (by decide) (by decide)
    exact ⟨by rw [show f1 r1 r2 r3 r4 r5 r6 r7 i1 = .null from by simp only [f1, if_neg hc2]] <;> rfl, N0, e1⟩
theorem d2_0 : decode method_3_code 0 = .ok (.iload_n 0, 1) := by decide +kernel
theorem d2_1 : decode method_3_code 1 = .ok (.iconst 1, 1) := by decide +kernel
theorem d2_2 : decode method_3_code 2 = .ok (.if_icmp .ne 7, 3) := by decide +kernel
theorem d2_5 : decode method_3_code 5 = .ok (.getstatic 19, 3) := by decide +kernel
theorem d2_8 : decode method_3_code 8 = .ok (.areturn, 1) := by decide +kernel
theorem d2_9 : decode method_3_code 9 = .ok (.iload_n 0, 1) := by decide +kernel
theorem d2_10 : decode method_3_code 10 = .ok (.iconst 2, 1) := by decide +kernel
theorem d2_11 : decode method_3_code 11 = .ok (.if_icmp .ne 7, 3) := by decide +kernel
theorem d2_14 : decode method_3_code 14 = .ok (.getstatic 23, 3) := by decide +kernel
theorem d2_17 : decode method_3_code 17 = .ok (.areturn, 1) := by decide +kernel
theorem d2_18 : decode method_3_code 18 = .ok (.iload_n 0, 1) := by decide +kernel
theorem d2_19 : decode method_3_code 19 = .ok (.iconst 3, 1) := by decide +kernel
theorem d2_20 : decode method_3_code 20 = .ok (.if_icmp .ne 7, 3) := by decide +kernel
theorem d2_23 : decode method_3_code 23 = .ok (.getstatic 26, 3) := by decide +kernel
theorem d2_26 : decode method_3_code 26 = .ok (.areturn, 1) := by decide +kernel
theorem d2_27 : decode method_3_code 27 = .ok (.iload_n 0, 1) := by decide +kernel
theorem d2_28 : decode method_3_code 28 = .ok (.iconst 4, 1) := by decide +kernel
theorem d2_29 : decode method_3_code 29 = .ok (.if_icmp .ne 7, 3) := by decide +kernel
theorem d2_32 : decode method_3_code 32 = .ok (.getstatic 29, 3) := by decide +kernel
theorem d2_35 : decode method_3_code 35 = .ok (.areturn, 1) := by decide +kernel
theorem d2_36 : decode method_3_code 36 = .ok (.iload_n 0, 1) := by decide +kernel
theorem d2_37 : decode method_3_code 37 = .ok (.iconst 5, 1) := by decide +kernel
theorem d2_38 : decode method_3_code 38 = .ok (.if_icmp .ne 7, 3) := by decide +kernel
theorem d2_41 : decode method_3_code 41 = .ok (.getstatic 32, 3) := by decide +kernel
theorem d2_44 : decode method_3_code 44 = .ok (.areturn, 1) := by decide +kernel
theorem d2_45 : decode method_3_code 45 = .ok (.iload_n 0, 1) := by decide +kernel
theorem d2_46 : decode method_3_code 46 = .ok (.bipush 6, 2) := by decide +kernel
theorem d2_48 : decode method_3_code 48 = .ok (.if_icmp .ne 7, 3) := by decide +kernel
theorem d2_51 : decode method_3_code 51 = .ok (.getstatic 35, 3) := by decide +kernel
theorem d2_54 : decode method_3_code 54 = .ok (.areturn, 1) := by decide +kernel
theorem d2_55 : decode method_3_code 55 = .ok (.iload_n 0, 1) := by decide +kernel
theorem d2_56 : decode method_3_code 56 = .ok (.bipush 7, 2) := by decide +kernel
theorem d2_58 : decode method_3_code 58 = .ok (.if_icmp .ne 7, 3) := by decide +kernel
theorem d2_61 : decode method_3_code 61 = .ok (.getstatic 38, 3) := by decide +kernel
theorem d2_64 : decode method_3_code 64 = .ok (.areturn, 1) := by decide +kernel
theorem d2_65 : decode method_3_code 65 = .ok (.aconst_null, 1) := by decide +kernel
theorem d2_66 : decode method_3_code 66 = .ok (.areturn, 1) := by decide +kernel
theorem pn1 : plainName "com/example/envelope/envelope/ValueCaseOfNumberPinLaw" = true := by first | (simp [plainName, overriddenIn]; done) | decide +kernel
theorem ef2 (m : MethodId) (i1 : Int32) : entryFrame m #[(.int i1)] 1 = mkF m 0 #[.val (.int i1)] [] := by first | (simp [entryFrame, mkF, argsToLocals, Value.category]; done) | rfl
def f2 (r1 : Addr) (r2 : Addr) (r3 : Addr) (r4 : Addr) (r5 : Addr) (r6 : Addr) (r7 : Addr) (i1 : Int32) : Value := (if i1 = (1 : Int32) then (.ref r1) else (if i1 = (2 : Int32) then (.ref r2) else (if i1 = (3 : Int32) then (.ref r3) else (if i1 = (4 : Int32) then (.ref r4) else (if i1 = (5 : Int32) then (.ref r5) else (if i1 = (6 : Int32) then (.ref r6) else (if i1 = (7 : Int32) then (.ref r7) else .null)))))))
theorem own_f2_ref (r1 r2 r3 r4 r5 r6 r7 : Addr) (i : Int32) : (f2 r1 r2 r3 r4 r5 r6 r7 i).isRef = true := by
  unfold f2
  repeat' split
  all_goals rfl
set_option maxRecDepth 65536 in
set_option maxHeartbeats 40000000 in
theorem rm2 (l : Launch) (Z : State) (a0 : Array Value) (hw : ∀ d ∈ tables_1, d.before a0 Z = true) (ws : List Jvm.Cond) (i1 : Int32) (h0 : Heap) (n0 : Nat) (Z0 : n0 ≤ h0.size) (r1 : Addr) (r2 : Addr) (r3 : Addr) (r4 : Addr) (r5 : Addr) (r6 : Addr) (r7 : Addr) (Sr1 : Sta Z h0 "com/example/envelope/envelope/ProtobufFields$ValueCase" "CE_BOOLEAN" "Lcom/example/envelope/envelope/ProtobufFields$ValueCase;" (.ref r1)) (Sr2 : Sta Z h0 "com/example/envelope/envelope/ProtobufFields$ValueCase" "CE_INTEGER" "Lcom/example/envelope/envelope/ProtobufFields$ValueCase;" (.ref r2)) (Sr3 : Sta Z h0 "com/example/envelope/envelope/ProtobufFields$ValueCase" "CE_STRING" "Lcom/example/envelope/envelope/ProtobufFields$ValueCase;" (.ref r3)) (Sr4 : Sta Z h0 "com/example/envelope/envelope/ProtobufFields$ValueCase" "CE_BYTES" "Lcom/example/envelope/envelope/ProtobufFields$ValueCase;" (.ref r4)) (Sr5 : Sta Z h0 "com/example/envelope/envelope/ProtobufFields$ValueCase" "CE_URI" "Lcom/example/envelope/envelope/ProtobufFields$ValueCase;" (.ref r5)) (Sr6 : Sta Z h0 "com/example/envelope/envelope/ProtobufFields$ValueCase" "CE_URI_REF" "Lcom/example/envelope/envelope/ProtobufFields$ValueCase;" (.ref r6)) (Sr7 : Sta Z h0 "com/example/envelope/envelope/ProtobufFields$ValueCase" "CE_TIMESTAMP" "Lcom/example/envelope/envelope/ProtobufFields$ValueCase;" (.ref r7)) :
    own_Met l (⟨"com/example/envelope/envelope/ValueCaseOfNumberPinLaw", "expected", "(I)Lcom/example/envelope/envelope/ProtobufFields$ValueCase;"⟩ : MethodName) method_3_code 1 (some (.object "com/example/envelope/envelope/ProtobufFields$ValueCase")) ({ frames := 0, cells := 0, slots := 0, locals := 0 } : Room) ws #[(.int i1)] Z h0 0 0 (own_QP (some (f2 r1 r2 r3 r4 r5 r6 r7 i1)) h0 n0) := by
  refine own_met (plainFor_of_name pn1) ?_
  intro p e s m below meth c s₁ hx hby hml hown hnm hret hlk hZ e0 X0
  have hml : c.maxLocals = 1 := hml
  have N0 := Fr.nil n0
  have K0 := Keep.refl h0 []
  refine own_go (fun _ k => castTop (ef2 m i1) k) ?_
  show own_Fin p.tables e below _ (s₁.setTop (mkF m 0 #[.val (.int i1)] []))
  refine own_go (fun _ k => XS.iloadN X0.here hx rfl (hb hby d2_0) rfl k) ?_
  show own_Fin p.tables e below _ (s₁.setTop (mkF m 1 #[.val (.int i1)] [(.int i1)]))
  refine own_go (fun _ k => XT.iconstV X0.here hx rfl (1 : Int32) (hb hby d2_1) (by decide) k) ?_
  show own_Fin p.tables e below _ (s₁.setTop (mkF m 2 #[.val (.int i1)] [(.int (1 : Int32)), (.int i1)]))
  by_cases hc1 : i1 = (1 : Int32)
  · refine own_go (fun _ k => XS.icmpNo X0.here hx rfl (hb hby d2_2) rfl (XT.ii_ne_f hc1) k) ?_
    show own_Fin p.tables e below _ (s₁.setTop (mkF m 5 #[.val (.int i1)] []))
    obtain ⟨T2, X2, e2, st2⟩ := getS (host := "") X0 hx hZ hown (hw _ (List.mem_of_getElem? (i := 14) rfl)) Via.refl e0 Sr1 (g := (mkF m 5 #[.val (.int i1)] [])) rfl (hb hby d2_5)
    refine own_go st2 ?_
    show own_Fin p.tables e below _ (T2.setTop (mkF m 8 #[.val (.int i1)] [(.ref r1)]))
    refine own_retA X2 hx hlk hret rfl rfl (hb hby d2_8) ?_ (by decide) (by decide)
    exact ⟨by rw [show f2 r1 r2 r3 r4 r5 r6 r7 i1 = (.ref r1) from by simp only [f2, if_pos hc1]] <;> rfl, N0, e2⟩
  · refine own_go (fun _ k => XS.icmpYes X0.here hx rfl (pc0 := 2) (pc' := 9) rfl (hb hby d2_2) rfl (XT.ii_ne_t hc1) (by decide) (by decide) k) ?_
    show own_Fin p.tables e below _ (s₁.setTop (mkF m 9 #[.val (.int i1)] []))
    refine own_go (fun _ k => XS.iloadN X0.here hx rfl (hb hby d2_9) rfl k) ?_
    show own_Fin p.tables e below _ (s₁.setTop (mkF m 10 #[.val (.int i1)] [(.int i1)]))
    refine own_go (fun _ k => XT.iconstV X0.here hx rfl (2 : Int32) (hb hby d2_10) (by decide) k) ?_
    show own_Fin p.tables e below _ (s₁.setTop (mkF m 11 #[.val (.int i1)] [(.int (2 : Int32)), (.int i1)]))
    by_cases hc3 : i1 = (2 : Int32)
    · refine own_go (fun _ k => XS.icmpNo X0.here hx rfl (hb hby d2_11) rfl (XT.ii_ne_f hc3) k) ?_
      show own_Fin p.tables e below _ (s₁.setTop (mkF m 14 #[.val (.int i1)] []))
      obtain ⟨T4, X4, e4, st4⟩ := getS (host := "") X0 hx hZ hown (hw _ (List.mem_of_getElem? (i := 22) rfl)) Via.refl e0 Sr2 (g := (mkF m 14 #[.val (.int i1)] [])) rfl (hb hby d2_14)
      refine own_go st4 ?_
      show own_Fin p.tables e below _ (T4.setTop (mkF m 17 #[.val (.int i1)] [(.ref r2)]))
      refine own_retA X4 hx hlk hret rfl rfl (hb hby d2_17) ?_ (by decide) (by decide)
      exact ⟨by rw [show f2 r1 r2 r3 r4 r5 r6 r7 i1 = (.ref r2) from by simp only [f2, if_neg hc1, if_pos hc3]] <;> rfl, N0, e4⟩
    · refine own_go (fun _ k => XS.icmpYes X0.here hx rfl (pc0 := 11) (pc' := 18) rfl (hb hby d2_11) rfl (XT.ii_ne_t hc3) (by decide) (by decide) k) ?_
      show own_Fin p.tables e below _ (s₁.setTop (mkF m 18 #[.val (.int i1)] []))
      refine own_go (fun _ k => XS.iloadN X0.here hx rfl (hb hby d2_18) rfl k) ?_
      show own_Fin p.tables e below _ (s₁.setTop (mkF m 19 #[.val (.int i1)] [(.int i1)]))
      refine own_go (fun _ k => XT.iconstV X0.here hx rfl (3 : Int32) (hb hby d2_19) (by decide) k) ?_
      show own_Fin p.tables e below _ (s₁.setTop (mkF m 20 #[.val (.int i1)] [(.int (3 : Int32)), (.int i1)]))
      by_cases hc5 : i1 = (3 : Int32)
      · refine own_go (fun _ k => XS.icmpNo X0.here hx rfl (hb hby d2_20) rfl (XT.ii_ne_f hc5) k) ?_
        show own_Fin p.tables e below _ (s₁.setTop (mkF m 23 #[.val (.int i1)] []))
        obtain ⟨T6, X6, e6, st6⟩ := getS (host := "") X0 hx hZ hown (hw _ (List.mem_of_getElem? (i := 12) rfl)) Via.refl e0 Sr3 (g := (mkF m 23 #[.val (.int i1)] [])) rfl (hb hby d2_23)
        refine own_go st6 ?_
        show own_Fin p.tables e below _ (T6.setTop (mkF m 26 #[.val (.int i1)] [(.ref r3)]))
        refine own_retA X6 hx hlk hret rfl rfl (hb hby d2_26) ?_ (by decide) (by decide)
        exact ⟨by rw [show f2 r1 r2 r3 r4 r5 r6 r7 i1 = (.ref r3) from by simp only [f2, if_neg hc1, if_neg hc3, if_pos hc5]] <;> rfl, N0, e6⟩
      · refine own_go (fun _ k => XS.icmpYes X0.here hx rfl (pc0 := 20) (pc' := 27) rfl (hb hby d2_20) rfl (XT.ii_ne_t hc5) (by decide) (by decide) k) ?_
        show own_Fin p.tables e below _ (s₁.setTop (mkF m 27 #[.val (.int i1)] []))
        refine own_go (fun _ k => XS.iloadN X0.here hx rfl (hb hby d2_27) rfl k) ?_
        show own_Fin p.tables e below _ (s₁.setTop (mkF m 28 #[.val (.int i1)] [(.int i1)]))
        refine own_go (fun _ k => XT.iconstV X0.here hx rfl (4 : Int32) (hb hby d2_28) (by decide) k) ?_
        show own_Fin p.tables e below _ (s₁.setTop (mkF m 29 #[.val (.int i1)] [(.int (4 : Int32)), (.int i1)]))
        by_cases hc7 : i1 = (4 : Int32)
        · refine own_go (fun _ k => XS.icmpNo X0.here hx rfl (hb hby d2_29) rfl (XT.ii_ne_f hc7) k) ?_
          show own_Fin p.tables e below _ (s₁.setTop (mkF m 32 #[.val (.int i1)] []))
          obtain ⟨T8, X8, e8, st8⟩ := getS (host := "") X0 hx hZ hown (hw _ (List.mem_of_getElem? (i := 24) rfl)) Via.refl e0 Sr4 (g := (mkF m 32 #[.val (.int i1)] [])) rfl (hb hby d2_32)
          refine own_go st8 ?_
          show own_Fin p.tables e below _ (T8.setTop (mkF m 35 #[.val (.int i1)] [(.ref r4)]))
          refine own_retA X8 hx hlk hret rfl rfl (hb hby d2_35) ?_ (by decide) (by decide)
          exact ⟨by rw [show f2 r1 r2 r3 r4 r5 r6 r7 i1 = (.ref r4) from by simp only [f2, if_neg hc1, if_neg hc3, if_neg hc5, if_pos hc7]] <;> rfl, N0, e8⟩
        · refine own_go (fun _ k => XS.icmpYes X0.here hx rfl (pc0 := 29) (pc' := 36) rfl (hb hby d2_29) rfl (XT.ii_ne_t hc7) (by decide) (by decide) k) ?_
          show own_Fin p.tables e below _ (s₁.setTop (mkF m 36 #[.val (.int i1)] []))
          refine own_go (fun _ k => XS.iloadN X0.here hx rfl (hb hby d2_36) rfl k) ?_
          show own_Fin p.tables e below _ (s₁.setTop (mkF m 37 #[.val (.int i1)] [(.int i1)]))
          refine own_go (fun _ k => XT.iconstV X0.here hx rfl (5 : Int32) (hb hby d2_37) (by decide) k) ?_
          show own_Fin p.tables e below _ (s₁.setTop (mkF m 38 #[.val (.int i1)] [(.int (5 : Int32)), (.int i1)]))
          by_cases hc9 : i1 = (5 : Int32)
          · refine own_go (fun _ k => XS.icmpNo X0.here hx rfl (hb hby d2_38) rfl (XT.ii_ne_f hc9) k) ?_
            show own_Fin p.tables e below _ (s₁.setTop (mkF m 41 #[.val (.int i1)] []))
            obtain ⟨T10, X10, e10, st10⟩ := getS (host := "") X0 hx hZ hown (hw _ (List.mem_of_getElem? (i := 18) rfl)) Via.refl e0 Sr5 (g := (mkF m 41 #[.val (.int i1)] [])) rfl (hb hby d2_41)
            refine own_go st10 ?_
            show own_Fin p.tables e below _ (T10.setTop (mkF m 44 #[.val (.int i1)] [(.ref r5)]))
            refine own_retA X10 hx hlk hret rfl rfl (hb hby d2_44) ?_ (by decide) (by decide)
            exact ⟨by rw [show f2 r1 r2 r3 r4 r5 r6 r7 i1 = (.ref r5) from by simp only [f2, if_neg hc1, if_neg hc3, if_neg hc5, if_neg hc7, if_pos hc9]] <;> rfl, N0, e10⟩
          · refine own_go (fun _ k => XS.icmpYes X0.here hx rfl (pc0 := 38) (pc' := 45) rfl (hb hby d2_38) rfl (XT.ii_ne_t hc9) (by decide) (by decide) k) ?_
            show own_Fin p.tables e below _ (s₁.setTop (mkF m 45 #[.val (.int i1)] []))
            refine own_go (fun _ k => XS.iloadN X0.here hx rfl (hb hby d2_45) rfl k) ?_
            show own_Fin p.tables e below _ (s₁.setTop (mkF m 46 #[.val (.int i1)] [(.int i1)]))
            refine own_go (fun _ k => XT.bipushV X0.here hx rfl (6 : Int32) (hb hby d2_46) (by decide) k) ?_
            show own_Fin p.tables e below _ (s₁.setTop (mkF m 48 #[.val (.int i1)] [(.int (6 : Int32)), (.int i1)]))
            by_cases hc11 : i1 = (6 : Int32)
            · refine own_go (fun _ k => XS.icmpNo X0.here hx rfl (hb hby d2_48) rfl (XT.ii_ne_f hc11) k) ?_
              show own_Fin p.tables e below _ (s₁.setTop (mkF m 51 #[.val (.int i1)] []))
              obtain ⟨T12, X12, e12, st12⟩ := getS (host := "") X0 hx hZ hown (hw _ (List.mem_of_getElem? (i := 16) rfl)) Via.refl e0 Sr6 (g := (mkF m 51 #[.val (.int i1)] [])) rfl (hb hby d2_51)
              refine own_go st12 ?_
              show own_Fin p.tables e below _ (T12.setTop (mkF m 54 #[.val (.int i1)] [(.ref r6)]))
              refine own_retA X12 hx hlk hret rfl rfl (hb hby d2_54) ?_ (by decide) (by decide)
              exact ⟨by rw [show f2 r1 r2 r3 r4 r5 r6 r7 i1 = (.ref r6) from by simp only [f2, if_neg hc1, if_neg hc3, if_neg hc5, if_neg hc7, if_neg hc9, if_pos hc11]] <;> rfl, N0, e12⟩
            · refine own_go (fun _ k => XS.icmpYes X0.here hx rfl (pc0 := 48) (pc' := 55) rfl (hb hby d2_48) rfl (XT.ii_ne_t hc11) (by decide) (by decide) k) ?_
              show own_Fin p.tables e below _ (s₁.setTop (mkF m 55 #[.val (.int i1)] []))
              refine own_go (fun _ k => XS.iloadN X0.here hx rfl (hb hby d2_55) rfl k) ?_
              show own_Fin p.tables e below _ (s₁.setTop (mkF m 56 #[.val (.int i1)] [(.int i1)]))
              refine own_go (fun _ k => XT.bipushV X0.here hx rfl (7 : Int32) (hb hby d2_56) (by decide) k) ?_
              show own_Fin p.tables e below _ (s₁.setTop (mkF m 58 #[.val (.int i1)] [(.int (7 : Int32)), (.int i1)]))
              by_cases hc13 : i1 = (7 : Int32)
              · refine own_go (fun _ k => XS.icmpNo X0.here hx rfl (hb hby d2_58) rfl (XT.ii_ne_f hc13) k) ?_
                show own_Fin p.tables e below _ (s₁.setTop (mkF m 61 #[.val (.int i1)] []))
                obtain ⟨T14, X14, e14, st14⟩ := getS (host := "") X0 hx hZ hown (hw _ (List.mem_of_getElem? (i := 20) rfl)) Via.refl e0 Sr7 (g := (mkF m 61 #[.val (.int i1)] [])) rfl (hb hby d2_61)
                refine own_go st14 ?_
                show own_Fin p.tables e below _ (T14.setTop (mkF m 64 #[.val (.int i1)] [(.ref r7)]))
                refine own_retA X14 hx hlk hret rfl rfl (hb hby d2_64) ?_ (by decide) (by decide)
                exact ⟨by rw [show f2 r1 r2 r3 r4 r5 r6 r7 i1 = (.ref r7) from by simp only [f2, if_neg hc1, if_neg hc3, if_neg hc5, if_neg hc7, if_neg hc9, if_neg hc11, if_pos hc13]] <;> rfl, N0, e14⟩
              · refine own_go (fun _ k => XS.icmpYes X0.here hx rfl (pc0 := 58) (pc' := 65) rfl (hb hby d2_58) rfl (XT.ii_ne_t hc13) (by decide) (by decide) k) ?_
                show own_Fin p.tables e below _ (s₁.setTop (mkF m 65 #[.val (.int i1)] []))
                refine own_go (fun _ k => XS.aconstNull X0.here hx rfl (hb hby d2_65) k) ?_
                show own_Fin p.tables e below _ (s₁.setTop (mkF m 66 #[.val (.int i1)] [.null]))
                refine own_retA X0 hx hlk hret rfl rfl (hb hby d2_66) ?_ (by decide) (by decide)
                exact ⟨by rw [show f2 r1 r2 r3 r4 r5 r6 r7 i1 = .null from by simp only [f2, if_neg hc1, if_neg hc3, if_neg hc5, if_neg hc7, if_neg hc9, if_neg hc11, if_neg hc13]] <;> rfl, N0, e0⟩
theorem own_small_lo (i1 : Int32) : ¬ (i1 &&& (15 : Int32)) < (0 : Int32) := by
  rw [XT.and_neg32]; intro h; exact absurd h.2 (by decide)
theorem own_large_lo (i1 : Int32) : ¬ (i1 &&& (2147483647 : Int32)) < (0 : Int32) := by
  rw [XT.and_neg32]; intro h; exact absurd h.2 (by decide)
theorem pd1 : parseMethodDescriptor "(II)Z" = some ⟨[.int, .int], some .boolean⟩ := by decide +kernel
theorem ef0 (m : MethodId) (i1 : Int32) (i2 : Int32) : entryFrame m #[(.int i1), (.int i2)] maxLocals = mkF m 0 #[.val (.int i1), .val (.int i2), .unset, .unset, .unset, .unset] [] := by first | (simp [entryFrame, mkF, argsToLocals, Value.category, maxLocals]; done) | rfl
def f0 (r1 : Addr) (r2 : Addr) (r3 : Addr) (r4 : Addr) (r5 : Addr) (r6 : Addr) (r7 : Addr) (i1 : Int32) (i2 : Int32) : Int32 := (if ((f1 r1 r2 r3 r4 r5 r6 r7 (i1 &&& (15 : Int32))) : Value) = (f2 r1 r2 r3 r4 r5 r6 r7 (i1 &&& (15 : Int32))) then (if ((f1 r1 r2 r3 r4 r5 r6 r7 (i2 &&& (2147483647 : Int32))) : Value) = (f2 r1 r2 r3 r4 r5 r6 r7 (i2 &&& (2147483647 : Int32))) then (1 : Int32) else (0 : Int32)) else (0 : Int32))
theorem own_eq (r1 r2 r3 r4 r5 r6 r7 : Addr) (i : Int32) (hi : ¬ i < 0) : f1 r1 r2 r3 r4 r5 r6 r7 i = f2 r1 r2 r3 r4 r5 r6 r7 i := by
  have h0 : 0 ≤ i.toInt := by
    rw [XT.negI32] at hi; omega
  unfold f1
  by_cases h : i < 8
  · rw [if_pos h]
    have h8 : i.toInt < 8 := Int32.lt_iff_toInt_lt.mp h
    have hc : i.toInt = 0 ∨ i.toInt = 1 ∨ i.toInt = 2 ∨ i.toInt = 3 ∨ i.toInt = 4 ∨ i.toInt = 5 ∨ i.toInt = 6 ∨ i.toInt = 7 := by omega
    rcases hc with q | q | q | q | q | q | q | q
    · obtain rfl : i = 0 := Int32.toInt_inj.mp q
      rfl
    · obtain rfl : i = 1 := Int32.toInt_inj.mp q
      rfl
    · obtain rfl : i = 2 := Int32.toInt_inj.mp q
      rfl
    · obtain rfl : i = 3 := Int32.toInt_inj.mp q
      rfl
    · obtain rfl : i = 4 := Int32.toInt_inj.mp q
      rfl
    · obtain rfl : i = 5 := Int32.toInt_inj.mp q
      rfl
    · obtain rfl : i = 6 := Int32.toInt_inj.mp q
      rfl
    · obtain rfl : i = 7 := Int32.toInt_inj.mp q
      rfl
  · rw [if_neg h]
    have h8 : ¬ i.toInt < 8 := fun q => h (Int32.lt_iff_toInt_lt.mpr q)
    have g : ∀ k : Int32, k.toInt < 8 → ¬ i = k := fun k hk q => by subst q; exact h8 hk
    unfold f2
    rw [if_neg (g 1 (by decide)), if_neg (g 2 (by decide)), if_neg (g 3 (by decide)), if_neg (g 4 (by decide)), if_neg (g 5 (by decide)), if_neg (g 6 (by decide)), if_neg (g 7 (by decide))]
theorem own_law (r1 r2 r3 r4 r5 r6 r7 : Addr) (i1 i2 : Int32) : f0 r1 r2 r3 r4 r5 r6 r7 i1 i2 = 1 := by
  unfold f0
  rw [if_pos (own_eq r1 r2 r3 r4 r5 r6 r7 _ (own_small_lo i1)), if_pos (own_eq r1 r2 r3 r4 r5 r6 r7 _ (own_large_lo i2))]
set_option maxRecDepth 65536 in
set_option maxHeartbeats 40000000 in
theorem rm0 (l : Launch) (Z : State) (a0 : Array Value) (hw : ∀ d ∈ tables_1, d.before a0 Z = true) (ws : List Jvm.Cond) (i1 : Int32) (i2 : Int32) (h0 : Heap) (n0 : Nat) (Z0 : n0 ≤ h0.size) (r1 : Addr) (r2 : Addr) (r3 : Addr) (r4 : Addr) (r5 : Addr) (r6 : Addr) (r7 : Addr) (ra : Addr) (ka : ClassId) (SA : Sta Z h0 "com/example/envelope/envelope/ProtobufFields$ValueCase" "BY_NUMBER" "[Lcom/example/envelope/envelope/ProtobufFields$ValueCase;" (.ref ra)) (VA : Arv Z h0 ra ka (.object "com/example/envelope/envelope/ProtobufFields$ValueCase") (8 : Int32) (own_vs r1 r2 r3 r4 r5 r6 r7) .null) (Sr1 : Sta Z h0 "com/example/envelope/envelope/ProtobufFields$ValueCase" "CE_BOOLEAN" "Lcom/example/envelope/envelope/ProtobufFields$ValueCase;" (.ref r1)) (Sr2 : Sta Z h0 "com/example/envelope/envelope/ProtobufFields$ValueCase" "CE_INTEGER" "Lcom/example/envelope/envelope/ProtobufFields$ValueCase;" (.ref r2)) (Sr3 : Sta Z h0 "com/example/envelope/envelope/ProtobufFields$ValueCase" "CE_STRING" "Lcom/example/envelope/envelope/ProtobufFields$ValueCase;" (.ref r3)) (Sr4 : Sta Z h0 "com/example/envelope/envelope/ProtobufFields$ValueCase" "CE_BYTES" "Lcom/example/envelope/envelope/ProtobufFields$ValueCase;" (.ref r4)) (Sr5 : Sta Z h0 "com/example/envelope/envelope/ProtobufFields$ValueCase" "CE_URI" "Lcom/example/envelope/envelope/ProtobufFields$ValueCase;" (.ref r5)) (Sr6 : Sta Z h0 "com/example/envelope/envelope/ProtobufFields$ValueCase" "CE_URI_REF" "Lcom/example/envelope/envelope/ProtobufFields$ValueCase;" (.ref r6)) (Sr7 : Sta Z h0 "com/example/envelope/envelope/ProtobufFields$ValueCase" "CE_TIMESTAMP" "Lcom/example/envelope/envelope/ProtobufFields$ValueCase;" (.ref r7)) :
    own_Met l x code maxLocals ret room_1 ws #[(.int i1), (.int i2)] Z h0 0 0 (fun v h L => v = some (.int (f0 r1 r2 r3 r4 r5 r6 r7 i1 i2)) ∧ Fr n0 L) := by
  refine own_met (plainFor_of_name pn1) ?_
  intro p e s m below meth c s₁ hx hby hml hown hnm hret hlk hZ e0 X0
  have hml : c.maxLocals = 6 := hml
  have N0 := Fr.nil n0
  have K0 := Keep.refl h0 []
  refine own_go (fun _ k => castTop (ef0 m i1 i2) k) ?_
  show own_Fin p.tables e below _ (s₁.setTop (mkF m 0 #[.val (.int i1), .val (.int i2), .unset, .unset, .unset, .unset] []))
  refine own_go (fun _ k => XS.iloadN X0.here hx rfl (hb hby at_0) rfl k) ?_
  show own_Fin p.tables e below _ (s₁.setTop (mkF m 1 #[.val (.int i1), .val (.int i2), .unset, .unset, .unset, .unset] [(.int i1)]))
  refine own_go (fun _ k => XT.bipushV X0.here hx rfl (15 : Int32) (hb hby at_1) (by decide) k) ?_
  show own_Fin p.tables e below _ (s₁.setTop (mkF m 3 #[.val (.int i1), .val (.int i2), .unset, .unset, .unset, .unset] [(.int (15 : Int32)), (.int i1)]))
  refine own_go (fun _ k => XS.iand X0.here hx rfl (hb hby at_3) rfl k) ?_
  show own_Fin p.tables e below _ (s₁.setTop (mkF m 4 #[.val (.int i1), .val (.int i2), .unset, .unset, .unset, .unset] [(.int (i1 &&& (15 : Int32)))]))
  refine own_go (fun _ k => XS.istoreN X0.here hx rfl (hb hby at_4) rfl (l' := #[.val (.int i1), .val (.int i2), .val (.int (i1 &&& (15 : Int32))), .unset, .unset, .unset]) rfl k) ?_
  show own_Fin p.tables e below _ (s₁.setTop (mkF m 5 #[.val (.int i1), .val (.int i2), .val (.int (i1 &&& (15 : Int32))), .unset, .unset, .unset] []))
  refine own_go (fun _ k => XS.iloadN X0.here hx rfl (hb hby at_5) rfl k) ?_
  show own_Fin p.tables e below _ (s₁.setTop (mkF m 6 #[.val (.int i1), .val (.int i2), .val (.int (i1 &&& (15 : Int32))), .unset, .unset, .unset] [(.int i2)]))
  refine own_go (fun _ k => X0.ldcI hx hown (mvT hZ (hw _ (List.mem_of_getElem? (i := 0) rfl))) rfl (hb hby at_6) k) ?_
  show own_Fin p.tables e below _ (s₁.setTop (mkF m 8 #[.val (.int i1), .val (.int i2), .val (.int (i1 &&& (15 : Int32))), .unset, .unset, .unset] [(.int (2147483647 : Int32)), (.int i2)]))
  refine own_go (fun _ k => XS.iand X0.here hx rfl (hb hby at_8) rfl k) ?_
  show own_Fin p.tables e below _ (s₁.setTop (mkF m 9 #[.val (.int i1), .val (.int i2), .val (.int (i1 &&& (15 : Int32))), .unset, .unset, .unset] [(.int (i2 &&& (2147483647 : Int32)))]))
  refine own_go (fun _ k => XS.istoreN X0.here hx rfl (hb hby at_9) rfl (l' := #[.val (.int i1), .val (.int i2), .val (.int (i1 &&& (15 : Int32))), .val (.int (i2 &&& (2147483647 : Int32))), .unset, .unset]) rfl k) ?_
  show own_Fin p.tables e below _ (s₁.setTop (mkF m 10 #[.val (.int i1), .val (.int i2), .val (.int (i1 &&& (15 : Int32))), .val (.int (i2 &&& (2147483647 : Int32))), .unset, .unset] []))
  refine own_go (fun _ k => XS.iloadN X0.here hx rfl (hb hby at_10) rfl k) ?_
  show own_Fin p.tables e below _ (s₁.setTop (mkF m 11 #[.val (.int i1), .val (.int i2), .val (.int (i1 &&& (15 : Int32))), .val (.int (i2 &&& (2147483647 : Int32))), .unset, .unset] [(.int (i1 &&& (15 : Int32)))]))
  obtain ⟨_, T1, L1, X1, ⟨rfl, M1, e1⟩, st1⟩ := own_callS X0 hx hZ hown (hw _ (List.mem_of_getElem? (i := 1) rfl)) (hw _ (List.mem_of_getElem? (i := 2) rfl)) (hw _ (List.mem_of_getElem? (i := 3) rfl)) (hw _ (List.mem_of_getElem? (i := 4) rfl)) (by decide) (W := 0) (rm1 l Z a0 hw [] (i1 &&& (15 : Int32)) h0 n0 (Nat.le_trans Z0 K0.1) r1 r2 r3 r4 r5 r6 r7 ra ka SA VA (own_small_lo i1)) (by decide) (by decide) e0 (g := (mkF m 11 #[.val (.int i1), .val (.int i2), .val (.int (i1 &&& (15 : Int32))), .val (.int (i2 &&& (2147483647 : Int32))), .unset, .unset] [(.int (i1 &&& (15 : Int32)))])) rfl (by rw [hml]; rfl) (argsL := [(.int (i1 &&& (15 : Int32)))]) (rest := []) rfl (lenOf pd0 rfl) rfl (by show 2 * 0 + _ ≤ _; exact Nat.le_of_eq rfl) (hb hby at_11) (by decide) (by decide)
  have N1 := Fr.app N0 M1
  refine own_go st1 ?_
  show own_Fin p.tables e below _ (T1.setTop (mkF m 14 #[.val (.int i1), .val (.int i2), .val (.int (i1 &&& (15 : Int32))), .val (.int (i2 &&& (2147483647 : Int32))), .unset, .unset] [(f1 r1 r2 r3 r4 r5 r6 r7 (i1 &&& (15 : Int32)))]))
  refine own_go (fun _ k => XS.astore X1.here hx rfl (hb hby at_14) rfl (own_f1_ref r1 r2 r3 r4 r5 r6 r7 (i1 &&& (15 : Int32))) (l' := #[.val (.int i1), .val (.int i2), .val (.int (i1 &&& (15 : Int32))), .val (.int (i2 &&& (2147483647 : Int32))), .val (f1 r1 r2 r3 r4 r5 r6 r7 (i1 &&& (15 : Int32))), .unset]) (XS.store1 rfl (Or.inl rfl) (XT.cat1 (own_f1_ref r1 r2 r3 r4 r5 r6 r7 (i1 &&& (15 : Int32))))) k) ?_
  show own_Fin p.tables e below _ (T1.setTop (mkF m 16 #[.val (.int i1), .val (.int i2), .val (.int (i1 &&& (15 : Int32))), .val (.int (i2 &&& (2147483647 : Int32))), .val (f1 r1 r2 r3 r4 r5 r6 r7 (i1 &&& (15 : Int32))), .unset] []))
  refine own_go (fun _ k => XS.iloadN X1.here hx rfl (hb hby at_16) rfl k) ?_
  show own_Fin p.tables e below _ (T1.setTop (mkF m 17 #[.val (.int i1), .val (.int i2), .val (.int (i1 &&& (15 : Int32))), .val (.int (i2 &&& (2147483647 : Int32))), .val (f1 r1 r2 r3 r4 r5 r6 r7 (i1 &&& (15 : Int32))), .unset] [(.int (i2 &&& (2147483647 : Int32)))]))
  obtain ⟨_, T2, L2, X2, ⟨rfl, M2, e2⟩, st2⟩ := own_callS X1 hx hZ hown (hw _ (List.mem_of_getElem? (i := 1) rfl)) (hw _ (List.mem_of_getElem? (i := 2) rfl)) (hw _ (List.mem_of_getElem? (i := 3) rfl)) (hw _ (List.mem_of_getElem? (i := 4) rfl)) (by decide) (W := 0) (rm1 l Z a0 hw [] (i2 &&& (2147483647 : Int32)) h0 n0 (Nat.le_trans Z0 K0.1) r1 r2 r3 r4 r5 r6 r7 ra ka SA VA (own_large_lo i2)) (by decide) (by decide) e1 (g := (mkF m 17 #[.val (.int i1), .val (.int i2), .val (.int (i1 &&& (15 : Int32))), .val (.int (i2 &&& (2147483647 : Int32))), .val (f1 r1 r2 r3 r4 r5 r6 r7 (i1 &&& (15 : Int32))), .unset] [(.int (i2 &&& (2147483647 : Int32)))])) rfl (by rw [hml]; rfl) (argsL := [(.int (i2 &&& (2147483647 : Int32)))]) (rest := []) rfl (lenOf pd0 rfl) rfl (by show 2 * 0 + _ ≤ _; exact Nat.le_of_eq rfl) (hb hby at_17) (by decide) (by decide)
  have N2 := Fr.app N1 M2
  refine own_go st2 ?_
  show own_Fin p.tables e below _ (T2.setTop (mkF m 20 #[.val (.int i1), .val (.int i2), .val (.int (i1 &&& (15 : Int32))), .val (.int (i2 &&& (2147483647 : Int32))), .val (f1 r1 r2 r3 r4 r5 r6 r7 (i1 &&& (15 : Int32))), .unset] [(f1 r1 r2 r3 r4 r5 r6 r7 (i2 &&& (2147483647 : Int32)))]))
  refine own_go (fun _ k => XS.astore X2.here hx rfl (hb hby at_20) rfl (own_f1_ref r1 r2 r3 r4 r5 r6 r7 (i2 &&& (2147483647 : Int32))) (l' := #[.val (.int i1), .val (.int i2), .val (.int (i1 &&& (15 : Int32))), .val (.int (i2 &&& (2147483647 : Int32))), .val (f1 r1 r2 r3 r4 r5 r6 r7 (i1 &&& (15 : Int32))), .val (f1 r1 r2 r3 r4 r5 r6 r7 (i2 &&& (2147483647 : Int32)))]) (XS.store1 rfl (Or.inl rfl) (XT.cat1 (own_f1_ref r1 r2 r3 r4 r5 r6 r7 (i2 &&& (2147483647 : Int32))))) k) ?_
  show own_Fin p.tables e below _ (T2.setTop (mkF m 22 #[.val (.int i1), .val (.int i2), .val (.int (i1 &&& (15 : Int32))), .val (.int (i2 &&& (2147483647 : Int32))), .val (f1 r1 r2 r3 r4 r5 r6 r7 (i1 &&& (15 : Int32))), .val (f1 r1 r2 r3 r4 r5 r6 r7 (i2 &&& (2147483647 : Int32)))] []))
  refine own_go (fun _ k => XS.aload X2.here hx rfl (hb hby at_22) rfl (own_f1_ref r1 r2 r3 r4 r5 r6 r7 (i1 &&& (15 : Int32))) k) ?_
  show own_Fin p.tables e below _ (T2.setTop (mkF m 24 #[.val (.int i1), .val (.int i2), .val (.int (i1 &&& (15 : Int32))), .val (.int (i2 &&& (2147483647 : Int32))), .val (f1 r1 r2 r3 r4 r5 r6 r7 (i1 &&& (15 : Int32))), .val (f1 r1 r2 r3 r4 r5 r6 r7 (i2 &&& (2147483647 : Int32)))] [(f1 r1 r2 r3 r4 r5 r6 r7 (i1 &&& (15 : Int32)))]))
  refine own_go (fun _ k => XS.iloadN X2.here hx rfl (hb hby at_24) rfl k) ?_
  show own_Fin p.tables e below _ (T2.setTop (mkF m 25 #[.val (.int i1), .val (.int i2), .val (.int (i1 &&& (15 : Int32))), .val (.int (i2 &&& (2147483647 : Int32))), .val (f1 r1 r2 r3 r4 r5 r6 r7 (i1 &&& (15 : Int32))), .val (f1 r1 r2 r3 r4 r5 r6 r7 (i2 &&& (2147483647 : Int32)))] [(.int (i1 &&& (15 : Int32))), (f1 r1 r2 r3 r4 r5 r6 r7 (i1 &&& (15 : Int32)))]))
  obtain ⟨_, T3, L3, X3, ⟨rfl, M3, e3⟩, st3⟩ := own_callS X2 hx hZ hown (hw _ (List.mem_of_getElem? (i := 8) rfl)) (hw _ (List.mem_of_getElem? (i := 9) rfl)) (hw _ (List.mem_of_getElem? (i := 10) rfl)) (hw _ (List.mem_of_getElem? (i := 11) rfl)) (by decide) (W := 1) (rm2 l Z a0 hw [] (i1 &&& (15 : Int32)) h0 n0 (Nat.le_trans Z0 K0.1) r1 r2 r3 r4 r5 r6 r7 Sr1 Sr2 Sr3 Sr4 Sr5 Sr6 Sr7) (by decide) (by decide) e2 (g := (mkF m 25 #[.val (.int i1), .val (.int i2), .val (.int (i1 &&& (15 : Int32))), .val (.int (i2 &&& (2147483647 : Int32))), .val (f1 r1 r2 r3 r4 r5 r6 r7 (i1 &&& (15 : Int32))), .val (f1 r1 r2 r3 r4 r5 r6 r7 (i2 &&& (2147483647 : Int32)))] [(.int (i1 &&& (15 : Int32))), (f1 r1 r2 r3 r4 r5 r6 r7 (i1 &&& (15 : Int32)))])) rfl (by rw [hml]; rfl) (argsL := [(.int (i1 &&& (15 : Int32)))]) (rest := [(f1 r1 r2 r3 r4 r5 r6 r7 (i1 &&& (15 : Int32)))]) rfl (lenOf pd0 rfl) rfl (by simp only [List.map, List.sum_cons, List.sum_nil, XT.cat1 (own_f1_ref r1 r2 r3 r4 r5 r6 r7 (i1 &&& (15 : Int32)))]; decide) (hb hby at_25) (by decide) (by decide)
  have N3 := Fr.app N2 M3
  refine own_go st3 ?_
  show own_Fin p.tables e below _ (T3.setTop (mkF m 28 #[.val (.int i1), .val (.int i2), .val (.int (i1 &&& (15 : Int32))), .val (.int (i2 &&& (2147483647 : Int32))), .val (f1 r1 r2 r3 r4 r5 r6 r7 (i1 &&& (15 : Int32))), .val (f1 r1 r2 r3 r4 r5 r6 r7 (i2 &&& (2147483647 : Int32)))] [(f2 r1 r2 r3 r4 r5 r6 r7 (i1 &&& (15 : Int32))), (f1 r1 r2 r3 r4 r5 r6 r7 (i1 &&& (15 : Int32)))]))
  by_cases hc4 : ((f1 r1 r2 r3 r4 r5 r6 r7 (i1 &&& (15 : Int32))) : Value) = (f2 r1 r2 r3 r4 r5 r6 r7 (i1 &&& (15 : Int32)))
  · refine own_go (fun _ k => XT.acmpNo X3.here hx rfl (hb hby at_28) rfl (own_f1_ref r1 r2 r3 r4 r5 r6 r7 (i1 &&& (15 : Int32))) (own_f2_ref r1 r2 r3 r4 r5 r6 r7 (i1 &&& (15 : Int32))) (XT.aa_ne_f hc4) k) ?_
    show own_Fin p.tables e below _ (T3.setTop (mkF m 31 #[.val (.int i1), .val (.int i2), .val (.int (i1 &&& (15 : Int32))), .val (.int (i2 &&& (2147483647 : Int32))), .val (f1 r1 r2 r3 r4 r5 r6 r7 (i1 &&& (15 : Int32))), .val (f1 r1 r2 r3 r4 r5 r6 r7 (i2 &&& (2147483647 : Int32)))] []))
    refine own_go (fun _ k => XS.aload X3.here hx rfl (hb hby at_31) rfl (own_f1_ref r1 r2 r3 r4 r5 r6 r7 (i2 &&& (2147483647 : Int32))) k) ?_
    show own_Fin p.tables e below _ (T3.setTop (mkF m 33 #[.val (.int i1), .val (.int i2), .val (.int (i1 &&& (15 : Int32))), .val (.int (i2 &&& (2147483647 : Int32))), .val (f1 r1 r2 r3 r4 r5 r6 r7 (i1 &&& (15 : Int32))), .val (f1 r1 r2 r3 r4 r5 r6 r7 (i2 &&& (2147483647 : Int32)))] [(f1 r1 r2 r3 r4 r5 r6 r7 (i2 &&& (2147483647 : Int32)))]))
    refine own_go (fun _ k => XS.iloadN X3.here hx rfl (hb hby at_33) rfl k) ?_
    show own_Fin p.tables e below _ (T3.setTop (mkF m 34 #[.val (.int i1), .val (.int i2), .val (.int (i1 &&& (15 : Int32))), .val (.int (i2 &&& (2147483647 : Int32))), .val (f1 r1 r2 r3 r4 r5 r6 r7 (i1 &&& (15 : Int32))), .val (f1 r1 r2 r3 r4 r5 r6 r7 (i2 &&& (2147483647 : Int32)))] [(.int (i2 &&& (2147483647 : Int32))), (f1 r1 r2 r3 r4 r5 r6 r7 (i2 &&& (2147483647 : Int32)))]))
    obtain ⟨_, T5, L5, X5, ⟨rfl, M5, e5⟩, st5⟩ := own_callS X3 hx hZ hown (hw _ (List.mem_of_getElem? (i := 8) rfl)) (hw _ (List.mem_of_getElem? (i := 9) rfl)) (hw _ (List.mem_of_getElem? (i := 10) rfl)) (hw _ (List.mem_of_getElem? (i := 11) rfl)) (by decide) (W := 1) (rm2 l Z a0 hw [] (i2 &&& (2147483647 : Int32)) h0 n0 (Nat.le_trans Z0 K0.1) r1 r2 r3 r4 r5 r6 r7 Sr1 Sr2 Sr3 Sr4 Sr5 Sr6 Sr7) (by decide) (by decide) e3 (g := (mkF m 34 #[.val (.int i1), .val (.int i2), .val (.int (i1 &&& (15 : Int32))), .val (.int (i2 &&& (2147483647 : Int32))), .val (f1 r1 r2 r3 r4 r5 r6 r7 (i1 &&& (15 : Int32))), .val (f1 r1 r2 r3 r4 r5 r6 r7 (i2 &&& (2147483647 : Int32)))] [(.int (i2 &&& (2147483647 : Int32))), (f1 r1 r2 r3 r4 r5 r6 r7 (i2 &&& (2147483647 : Int32)))])) rfl (by rw [hml]; rfl) (argsL := [(.int (i2 &&& (2147483647 : Int32)))]) (rest := [(f1 r1 r2 r3 r4 r5 r6 r7 (i2 &&& (2147483647 : Int32)))]) rfl (lenOf pd0 rfl) rfl (by simp only [List.map, List.sum_cons, List.sum_nil, XT.cat1 (own_f1_ref r1 r2 r3 r4 r5 r6 r7 (i2 &&& (2147483647 : Int32)))]; decide) (hb hby at_34) (by decide) (by decide)
    have N5 := Fr.app N3 M5
    refine own_go st5 ?_
    show own_Fin p.tables e below _ (T5.setTop (mkF m 37 #[.val (.int i1), .val (.int i2), .val (.int (i1 &&& (15 : Int32))), .val (.int (i2 &&& (2147483647 : Int32))), .val (f1 r1 r2 r3 r4 r5 r6 r7 (i1 &&& (15 : Int32))), .val (f1 r1 r2 r3 r4 r5 r6 r7 (i2 &&& (2147483647 : Int32)))] [(f2 r1 r2 r3 r4 r5 r6 r7 (i2 &&& (2147483647 : Int32))), (f1 r1 r2 r3 r4 r5 r6 r7 (i2 &&& (2147483647 : Int32)))]))
    by_cases hc6 : ((f1 r1 r2 r3 r4 r5 r6 r7 (i2 &&& (2147483647 : Int32))) : Value) = (f2 r1 r2 r3 r4 r5 r6 r7 (i2 &&& (2147483647 : Int32)))
    · refine own_go (fun _ k => XT.acmpNo X5.here hx rfl (hb hby at_37) rfl (own_f1_ref r1 r2 r3 r4 r5 r6 r7 (i2 &&& (2147483647 : Int32))) (own_f2_ref r1 r2 r3 r4 r5 r6 r7 (i2 &&& (2147483647 : Int32))) (XT.aa_ne_f hc6) k) ?_
      show own_Fin p.tables e below _ (T5.setTop (mkF m 40 #[.val (.int i1), .val (.int i2), .val (.int (i1 &&& (15 : Int32))), .val (.int (i2 &&& (2147483647 : Int32))), .val (f1 r1 r2 r3 r4 r5 r6 r7 (i1 &&& (15 : Int32))), .val (f1 r1 r2 r3 r4 r5 r6 r7 (i2 &&& (2147483647 : Int32)))] []))
      refine own_go (fun _ k => XT.iconstV X5.here hx rfl (1 : Int32) (hb hby at_40) (by decide) k) ?_
      show own_Fin p.tables e below _ (T5.setTop (mkF m 41 #[.val (.int i1), .val (.int i2), .val (.int (i1 &&& (15 : Int32))), .val (.int (i2 &&& (2147483647 : Int32))), .val (f1 r1 r2 r3 r4 r5 r6 r7 (i1 &&& (15 : Int32))), .val (f1 r1 r2 r3 r4 r5 r6 r7 (i2 &&& (2147483647 : Int32)))] [(.int (1 : Int32))]))
      refine own_go (fun _ k => XS.goto X5.here hx rfl (pc0 := 41) (pc' := 45) rfl (hb hby at_41) (by decide) (by decide) k) ?_
      show own_Fin p.tables e below _ (T5.setTop (mkF m 45 #[.val (.int i1), .val (.int i2), .val (.int (i1 &&& (15 : Int32))), .val (.int (i2 &&& (2147483647 : Int32))), .val (f1 r1 r2 r3 r4 r5 r6 r7 (i1 &&& (15 : Int32))), .val (f1 r1 r2 r3 r4 r5 r6 r7 (i2 &&& (2147483647 : Int32)))] [(.int (1 : Int32))]))
      refine own_retN X5 hx hlk (t := .boolean) hret (by simp) (hb hby at_45) ?_ (by decide) (by decide)
      exact ⟨by rw [show f0 r1 r2 r3 r4 r5 r6 r7 i1 i2 = (1 : Int32) from by simp only [f0, if_pos hc4, if_pos hc6]] <;> rfl, N5⟩
    · refine own_go (fun _ k => XT.acmpYes X5.here hx rfl (pc0 := 37) (pc' := 44) rfl (hb hby at_37) rfl (own_f1_ref r1 r2 r3 r4 r5 r6 r7 (i2 &&& (2147483647 : Int32))) (own_f2_ref r1 r2 r3 r4 r5 r6 r7 (i2 &&& (2147483647 : Int32))) (XT.aa_ne_t hc6) (by decide) (by decide) k) ?_
      show own_Fin p.tables e below _ (T5.setTop (mkF m 44 #[.val (.int i1), .val (.int i2), .val (.int (i1 &&& (15 : Int32))), .val (.int (i2 &&& (2147483647 : Int32))), .val (f1 r1 r2 r3 r4 r5 r6 r7 (i1 &&& (15 : Int32))), .val (f1 r1 r2 r3 r4 r5 r6 r7 (i2 &&& (2147483647 : Int32)))] []))
      refine own_go (fun _ k => XT.iconstV X5.here hx rfl (0 : Int32) (hb hby at_44) (by decide) k) ?_
      show own_Fin p.tables e below _ (T5.setTop (mkF m 45 #[.val (.int i1), .val (.int i2), .val (.int (i1 &&& (15 : Int32))), .val (.int (i2 &&& (2147483647 : Int32))), .val (f1 r1 r2 r3 r4 r5 r6 r7 (i1 &&& (15 : Int32))), .val (f1 r1 r2 r3 r4 r5 r6 r7 (i2 &&& (2147483647 : Int32)))] [(.int (0 : Int32))]))
      refine own_retN X5 hx hlk (t := .boolean) hret (by simp) (hb hby at_45) ?_ (by decide) (by decide)
      exact ⟨by rw [show f0 r1 r2 r3 r4 r5 r6 r7 i1 i2 = (0 : Int32) from by simp only [f0, if_pos hc4, if_neg hc6]] <;> rfl, N5⟩
  · refine own_go (fun _ k => XT.acmpYes X3.here hx rfl (pc0 := 28) (pc' := 44) rfl (hb hby at_28) rfl (own_f1_ref r1 r2 r3 r4 r5 r6 r7 (i1 &&& (15 : Int32))) (own_f2_ref r1 r2 r3 r4 r5 r6 r7 (i1 &&& (15 : Int32))) (XT.aa_ne_t hc4) (by decide) (by decide) k) ?_
    show own_Fin p.tables e below _ (T3.setTop (mkF m 44 #[.val (.int i1), .val (.int i2), .val (.int (i1 &&& (15 : Int32))), .val (.int (i2 &&& (2147483647 : Int32))), .val (f1 r1 r2 r3 r4 r5 r6 r7 (i1 &&& (15 : Int32))), .val (f1 r1 r2 r3 r4 r5 r6 r7 (i2 &&& (2147483647 : Int32)))] []))
    refine own_go (fun _ k => XT.iconstV X3.here hx rfl (0 : Int32) (hb hby at_44) (by decide) k) ?_
    show own_Fin p.tables e below _ (T3.setTop (mkF m 45 #[.val (.int i1), .val (.int i2), .val (.int (i1 &&& (15 : Int32))), .val (.int (i2 &&& (2147483647 : Int32))), .val (f1 r1 r2 r3 r4 r5 r6 r7 (i1 &&& (15 : Int32))), .val (f1 r1 r2 r3 r4 r5 r6 r7 (i2 &&& (2147483647 : Int32)))] [(.int (0 : Int32))]))
    refine own_retN X3 hx hlk (t := .boolean) hret (by simp) (hb hby at_45) ?_ (by decide) (by decide)
    exact ⟨by rw [show f0 r1 r2 r3 r4 r5 r6 r7 i1 i2 = (0 : Int32) from by simp only [f0, if_neg hc4]] <;> rfl, N3⟩
theorem own_arr {args : Array Value} {s : State} {t : Term} {C : String} (g1 : (Jvm.Cond.arrayOf t (.object C)).value args s none s [] = some true) (g2 : (Jvm.Cond.eq (.length t) (.int 8)).value args s none s [] = some true) : ∃ a, t.eval args s none [] s = some (.ref a) ∧ ∃ cl, Arr s s.heap a cl (.object C) ∧ cl.slots.size = 8 := by
  obtain ⟨a, ha⟩ := arr_v g1
  obtain ⟨cl, A⟩ := Arr.start ha g1
  refine ⟨a, ha, cl, A, ?_⟩
  have hat : s.arrayAt? a = some cl := IntBox.arrayAt_of A.1 A.2.1 A.2.2
  by_cases hl : cl.slots.size < 2 ^ 31
  · have q := gotT (Cond.eq_ints (len_f ha hat hl) (Term.int_eval (8))) g2
    have q2 := congrArg Int32.toInt q
    rw [len_toInt hl] at q2
    have q3 : (8 : Int32).toInt = 8 := by decide
    omega
  · simp [Cond.value, Term.eval, ha, hat, hl] at g2
theorem own_el {args : Array Value} {s : State} {t u : Term} {C : String} {a : Addr} {cl : Cell} {i : Int32} {v : Value} (h : t.eval args s none [] s = some (.ref a)) (A : Arr s s.heap a cl (.object C)) (g : (Jvm.Cond.eq (.elem t (.int i)) u).value args s none s [] = some true) (hu : u.eval args s none [] s = some v) : cl.slots[i.toNatClampNeg]? = some v := by
  have hat : s.arrayAt? a = some cl := IntBox.arrayAt_of A.1 A.2.1 A.2.2
  by_cases hi : i < 0
  · have e : (Term.elem t (.int i)).eval args s none [] s = none := by simp [Term.eval, h, hi]
    simp [Cond.value, e] at g
  · have e := elem_f h (Term.int_eval (i)) hat hi
    simp only [Cond.value, e, hu] at g
    cases hx : cl.slots[i.toNatClampNeg]? with
    | none => simp [hx] at g
    | some w =>
      simp only [hx] at g
      cases w <;> cases v <;> simp_all
set_option maxRecDepth 65536 in
set_option maxHeartbeats 40000000 in
theorem comes_1 {Post : Tables → Env → Array Value → State → Outcome → State → Prop} (hpost : ∀ tb e args s v u, (limb_1_1.after args s (.returned v) u = true ∧ limb_1_2.after args s (.returned v) u = true ∧ True) → FrameEnd s (.returned v) u (Jvm.fieldLocs frame_1_writes args s ++ Jvm.arrayLocs frame_1_arrays args s ++ Jvm.staticLocs frame_1_statics s) 0 0 → Post tb e args s (.returned v) u) :
    ArmFor flags0 classFile x code maxLocals ret World_1 tables_1 room_1 Calls_1 rest_1 Pre_1 Post := by
  intro l hfl _ _ p e ha hc hk s m args below hf hA hF happ hP
  obtain ⟨hcalls, hrest, hpre⟩ := hP
  obtain ⟨-, -, -, hnamed, -, -, -, hat⟩ := (Spec.applies_iff hf).mp happ
  obtain ⟨hg, hn⟩ := and_e (Cond.before_iff.mp (show (Jvm.Cond.and given_1 narrow_1).before args s = true from hpre))
  obtain ⟨hcount, hr0⟩ := and_e hg
  obtain ⟨hk0, hr1⟩ := and_e hr0
  obtain ⟨w0, w1, rfl⟩ : ∃ w0 w1 : Value, args = #[w0, w1] := by
    have hs : args.size = 2 := by simpa [Cond.value, given_1] using hcount
    obtain ⟨L⟩ := args
    match L, hs with
    | [w0, w1], _ => exact ⟨w0, w1, rfl⟩
  have hw := fun d (hd : d ∈ tables_1) => atoms_spec (ws := Jvm.Cond.code x code maxLocals ret :: tables_1) hat d (List.mem_cons_of_mem _ hd)
  have hfit : Fit s := fun {y c} hc i hi => by
    obtain ⟨ha, rfl⟩ := Array.getElem?_eq_some_iff.mp hc
    have q := List.all_eq_true.mp ((Array.all_eq_true_iff_forall_mem.mp hF) _ (Array.getElem_mem ha)) i (List.mem_range.mpr hi)
    simpa [Array.getElem?_eq_getElem hi] using q
  obtain ⟨i0, ev0⟩ := is_v hk0
  obtain rfl : w0 = (.int i0) := Option.some.inj ev0
  obtain ⟨i1, ev1⟩ := is_v hr1
  obtain rfl : w1 = (.int i1) := Option.some.inj ev1
  obtain ⟨cA, hn⟩ := and_e hn
  obtain ⟨cL, hn⟩ := and_e hn
  obtain ⟨c0, hn⟩ := and_e hn
  obtain ⟨xr3, hn⟩ := and_e hn
  obtain ⟨yr3, hn⟩ := and_e hn
  obtain ⟨xr1, hn⟩ := and_e hn
  obtain ⟨yr1, hn⟩ := and_e hn
  obtain ⟨xr6, hn⟩ := and_e hn
  obtain ⟨yr6, hn⟩ := and_e hn
  obtain ⟨xr5, hn⟩ := and_e hn
  obtain ⟨yr5, hn⟩ := and_e hn
  obtain ⟨xr7, hn⟩ := and_e hn
  obtain ⟨yr7, hn⟩ := and_e hn
  obtain ⟨xr2, hn⟩ := and_e hn
  obtain ⟨yr2, hn⟩ := and_e hn
  obtain ⟨xr4, hn⟩ := and_e hn
  have yr4 := hn
  obtain ⟨r3, _, _, _, vr3, -⟩ := Cond.exactly_spec (Cond.before_iff.mpr xr3)
  have Sr3 : Sta s s.heap "com/example/envelope/envelope/ProtobufFields$ValueCase" "CE_STRING" "Lcom/example/envelope/envelope/ProtobufFields$ValueCase;" (.ref r3) := Sta.start vr3 (Or.inr ⟨hw _ (List.mem_of_getElem? (i := 3) rfl), hw _ (List.mem_of_getElem? (i := 7) rfl)⟩)
  obtain ⟨r1, _, _, _, vr1, -⟩ := Cond.exactly_spec (Cond.before_iff.mpr xr1)
  have Sr1 : Sta s s.heap "com/example/envelope/envelope/ProtobufFields$ValueCase" "CE_BOOLEAN" "Lcom/example/envelope/envelope/ProtobufFields$ValueCase;" (.ref r1) := Sta.start vr1 (Or.inr ⟨hw _ (List.mem_of_getElem? (i := 3) rfl), hw _ (List.mem_of_getElem? (i := 13) rfl)⟩)
  obtain ⟨r6, _, _, _, vr6, -⟩ := Cond.exactly_spec (Cond.before_iff.mpr xr6)
  have Sr6 : Sta s s.heap "com/example/envelope/envelope/ProtobufFields$ValueCase" "CE_URI_REF" "Lcom/example/envelope/envelope/ProtobufFields$ValueCase;" (.ref r6) := Sta.start vr6 (Or.inr ⟨hw _ (List.mem_of_getElem? (i := 3) rfl), hw _ (List.mem_of_getElem? (i := 15) rfl)⟩)
  obtain ⟨r5, _, _, _, vr5, -⟩ := Cond.exactly_spec (Cond.before_iff.mpr xr5)
  have Sr5 : Sta s s.heap "com/example/envelope/envelope/ProtobufFields$ValueCase" "CE_URI" "Lcom/example/envelope/envelope/ProtobufFields$ValueCase;" (.ref r5) := Sta.start vr5 (Or.inr ⟨hw _ (List.mem_of_getElem? (i := 3) rfl), hw _ (List.mem_of_getElem? (i := 17) rfl)⟩)
  obtain ⟨r7, _, _, _, vr7, -⟩ := Cond.exactly_spec (Cond.before_iff.mpr xr7)
  have Sr7 : Sta s s.heap "com/example/envelope/envelope/ProtobufFields$ValueCase" "CE_TIMESTAMP" "Lcom/example/envelope/envelope/ProtobufFields$ValueCase;" (.ref r7) := Sta.start vr7 (Or.inr ⟨hw _ (List.mem_of_getElem? (i := 3) rfl), hw _ (List.mem_of_getElem? (i := 19) rfl)⟩)
  obtain ⟨r2, _, _, _, vr2, -⟩ := Cond.exactly_spec (Cond.before_iff.mpr xr2)
  have Sr2 : Sta s s.heap "com/example/envelope/envelope/ProtobufFields$ValueCase" "CE_INTEGER" "Lcom/example/envelope/envelope/ProtobufFields$ValueCase;" (.ref r2) := Sta.start vr2 (Or.inr ⟨hw _ (List.mem_of_getElem? (i := 3) rfl), hw _ (List.mem_of_getElem? (i := 21) rfl)⟩)
  obtain ⟨r4, _, _, _, vr4, -⟩ := Cond.exactly_spec (Cond.before_iff.mpr xr4)
  have Sr4 : Sta s s.heap "com/example/envelope/envelope/ProtobufFields$ValueCase" "CE_BYTES" "Lcom/example/envelope/envelope/ProtobufFields$ValueCase;" (.ref r4) := Sta.start vr4 (Or.inr ⟨hw _ (List.mem_of_getElem? (i := 3) rfl), hw _ (List.mem_of_getElem? (i := 23) rfl)⟩)
  obtain ⟨ra, vA, cl, ArA, szA⟩ := own_arr cA cL
  have SA : Sta s s.heap "com/example/envelope/envelope/ProtobufFields$ValueCase" "BY_NUMBER" "[Lcom/example/envelope/envelope/ProtobufFields$ValueCase;" (.ref ra) := Sta.start vA (Or.inr ⟨hw _ (List.mem_of_getElem? (i := 3) rfl), hw _ (List.mem_of_getElem? (i := 6) rfl)⟩)
  have VA : Arv s s.heap ra cl.cls (.object "com/example/envelope/envelope/ProtobufFields$ValueCase") (8 : Int32) (own_vs r1 r2 r3 r4 r5 r6 r7) .null := Arv.start hfit ArA (by rw [szA]; decide) (by rw [szA]; rfl) (by decide) rfl ⟨own_el vA ArA c0 null_at, own_el vA ArA yr1 vr1, own_el vA ArA yr2 vr2, own_el vA ArA yr3 vr3, own_el vA ArA yr4 vr4, own_el vA ArA yr5 vr5, own_el vA ArA yr6 vr6, own_el vA ArA yr7 vr7, trivial⟩
  obtain ⟨n, o, h1, h2, h3, _, L, rfl, ⟨hv, N⟩, hq⟩ := rm0 l s _ hw tables_1 i0 i1 s.heap s.heap.size (Nat.le_refl _) r1 r2 r3 r4 r5 r6 r7 ra cl.cls SA VA Sr1 Sr2 Sr3 Sr4 Sr5 Sr6 Sr7 p e ha hc hk s m _ below hf ((Spec.applies_iff_loose hf).mp happ).1 ⟨rfl, State.Warmed39.refl s, rfl⟩ trivial
  rw [own_law] at hv
  subst hv
  refine ⟨n, _, h1, h2, h3, hpost _ _ _ _ _ _ ⟨Cond.after_iff.mpr rfl, Cond.after_iff.mpr (eq_i res_at (Term.int_eval (1)) rfl), trivial⟩ ⟨hq.1, hq.2.1, (hq.2.2.sift fun y hy => Or.inr (N y hy)).mono (by decide) (by decide)⟩⟩
theorem main_1_1 : Claimed_1_1 := comes_1 fun _ _ _ _ _ _ h hF => ⟨h.1, hF⟩
theorem main_1_2 : Claimed_1_2 := comes_1 fun _ _ _ _ _ _ h hF => ⟨h.2.1, hF⟩
end Jvm.Pilot.@@N@@
namespace Jvm.Pilot.@@N@@
open Jvm Jvm.ClassFile Sem Op Lib Jvm.Free Jvm.Stand Jvm.Pilot.@@N@@.Jvm.D
/-! MADE BY PROGRAM (witnessworld.py) out of the Statement's table words and the real class files: 13 classes; the members and pool entries that the words name. The judged class is class 1, her method 1. -/
namespace start1
open Jvm.ClassFile
def u (s : String) : CpInfo := .utf8 (stringToUtf16 s)
/-- a pool by its gaps: so many unusable entries, then the entry; so many at the end -/
def gap : Nat → List CpInfo → List CpInfo
  | 0, r => r
  | n + 1, r => .unusable :: gap n r
def poolList (es : List (Nat × CpInfo)) (last : Nat) : List CpInfo := es.foldr (fun e r => gap e.1 (e.2 :: r)) (gap last [])
def pool (es : List (Nat × CpInfo)) (last : Nat) : Array CpInfo := ⟨poolList es last⟩
def fileOf (pool : Array CpInfo) (this : Nat) (attrs : Array Attribute := #[]) (ms : Array MethodInfo := #[]) (fl : Nat := 33) (sup : Nat := 0) (ifs : Array Nat := #[]) (fds : Array FieldInfo := #[]) : ClassFile where
  minorVersion := 0
  majorVersion := 65
  constantPool := pool
  accessFlags := fl
  thisClass := this
  superClass := sup
  interfaces := ifs
  fields := fds
  methods := ms
  attributes := attrs
def plain (name : String) (sup : Option ClassId) : Class where
  name := name
  kind := .ordinary
  loader := none
  accessFlags := 33
  super := sup
  interfaces := #[]
  cf := none
  fields := #[]
  methods := #[]
  instanceTypes := #[]
  staticTypes := #[]
  resolved := #[]
  callSites := []
  init := .initialized
  statics := none
  mirror := none

def pool0 : Array CpInfo := pool [(5, u "<init>"), (0, u "()V"), (1, .class_ 10), (1, u "java/lang/Object")] 113

def k0m0 : Method := { name := "<init>", desc := "()V", sig := { parameters := [], returnType := none }, accessFlags := 1, code := none }
/-- java/lang/Object -/
def k0 : Class := { plain "java/lang/Object" none with
  accessFlags := 33
  interfaces := #[]
  cf := some (fileOf pool0 8 #[] #[{ accessFlags := 1, nameIndex := 5, descriptorIndex := 6, attributes := #[] }] 33 0 #[] #[])
  fields := #[]
  methods := #[k0m0]
  instanceTypes := #[]
  staticTypes := #[]
  resolved := Array.replicate 124 none
  statics := none }

def pool1 : Array CpInfo := pool [(2, .class_ 4), (1, u "java/lang/Object"), (0, u "<init>"), (0, u "()V"), (0, .integer 2147483647), (0, .methodref 9 10), (0, .class_ 11), (0, .nameAndType 12 13), (0, u "com/example/envelope/envelope/ProtobufFields$ValueCase"), (0, u "ofNumber"), (0, u "(I)Lcom/example/envelope/envelope/ProtobufFields$ValueCase;"), (0, .methodref 15 16), (0, .class_ 17), (0, .nameAndType 18 13), (0, u "com/example/envelope/envelope/ValueCaseOfNumberPinLaw"), (0, u "expected"), (0, .fieldref 9 20), (0, .nameAndType 21 22), (0, u "CE_BOOLEAN"), (0, u "Lcom/example/envelope/envelope/ProtobufFields$ValueCase;"), (0, .fieldref 9 24), (0, .nameAndType 25 22), (0, u "CE_INTEGER"), (0, .fieldref 9 27), (0, .nameAndType 28 22), (0, u "CE_STRING"), (0, .fieldref 9 30), (0, .nameAndType 31 22), (0, u "CE_BYTES"), (0, .fieldref 9 33), (0, .nameAndType 34 22), (0, u "CE_URI"), (0, .fieldref 9 36), (0, .nameAndType 37 22), (0, u "CE_URI_REF"), (0, .fieldref 9 39), (0, .nameAndType 40 22), (0, u "CE_TIMESTAMP"), (2, u "law"), (0, u "(II)Z")] 7

def k1m0 : Method := { name := "<init>", desc := "()V", sig := { parameters := [], returnType := none }, accessFlags := 2, code := none }
def k1c1 : Code := { maxStack := 2, maxLocals := 6, code := code, exceptionTable := #[], attributes := #[] }
def k1m1 : Method := { name := "law", desc := "(II)Z", sig := { parameters := [.int, .int], returnType := some .boolean }, accessFlags := 9, code := some k1c1 }
def k1c2 : Code := { maxStack := 2, maxLocals := 1, code := method_3_code, exceptionTable := #[], attributes := #[] }
def k1m2 : Method := { name := "expected", desc := "(I)Lcom/example/envelope/envelope/ProtobufFields$ValueCase;", sig := { parameters := [.int], returnType := some (.object "com/example/envelope/envelope/ProtobufFields$ValueCase") }, accessFlags := 10, code := some k1c2 }
/-- com/example/envelope/envelope/ValueCaseOfNumberPinLaw -/
def k1 : Class := { plain "com/example/envelope/envelope/ValueCaseOfNumberPinLaw" (some 0) with
  accessFlags := 49
  interfaces := #[]
  cf := some (fileOf pool1 15 #[] #[{ accessFlags := 2, nameIndex := 5, descriptorIndex := 6, attributes := #[] }, { accessFlags := 9, nameIndex := 43, descriptorIndex := 44, attributes := #[] }, { accessFlags := 10, nameIndex := 18, descriptorIndex := 13, attributes := #[] }] 49 2 #[] #[])
  fields := #[]
  methods := #[k1m0, k1m1, k1m2]
  instanceTypes := #[]
  staticTypes := #[]
  resolved := Array.replicate 52 none
  statics := none }

def pool2 : Array CpInfo := pool [(1, .class_ 2), (0, u "java/lang/constant/Constable"), (0, .class_ 4), (0, u "java/lang/Object")] 6

/-- java/lang/constant/Constable -/
def k2 : Class := { plain "java/lang/constant/Constable" (some 0) with
  accessFlags := 1537
  interfaces := #[]
  cf := some (fileOf pool2 1 #[] #[] 1537 3 #[] #[])
  fields := #[]
  methods := #[]
  instanceTypes := #[]
  staticTypes := #[]
  resolved := Array.replicate 11 none
  statics := none }

def pool3 : Array CpInfo := pool [(1, .class_ 2), (0, u "java/lang/Comparable"), (0, .class_ 4), (0, u "java/lang/Object")] 7

/-- java/lang/Comparable -/
def k3 : Class := { plain "java/lang/Comparable" (some 0) with
  accessFlags := 1537
  interfaces := #[]
  cf := some (fileOf pool3 1 #[] #[] 1537 3 #[] #[])
  fields := #[]
  methods := #[]
  instanceTypes := #[]
  staticTypes := #[]
  resolved := Array.replicate 12 none
  statics := none }

def pool4 : Array CpInfo := pool [(1, .class_ 2), (0, u "java/io/Serializable"), (0, .class_ 4), (0, u "java/lang/Object")] 2

/-- java/io/Serializable -/
def k4 : Class := { plain "java/io/Serializable" (some 0) with
  accessFlags := 1537
  interfaces := #[]
  cf := some (fileOf pool4 1 #[] #[] 1537 3 #[] #[])
  fields := #[]
  methods := #[]
  instanceTypes := #[]
  staticTypes := #[]
  resolved := Array.replicate 7 none
  statics := none }

def pool5 : Array CpInfo := pool [(2, .class_ 4), (1, u "java/lang/Enum"), (0, u "name"), (0, u "Ljava/lang/String;"), (2, u "ordinal"), (0, u "I"), (1, .class_ 14), (1, u "java/lang/Object"), (4, u "hash"), (86, .class_ 108), (1, u "java/lang/Enum$EnumDesc"), (2, .class_ 112), (0, u "java/lang/constant/Constable"), (0, .class_ 114), (0, u "java/lang/Comparable"), (0, .class_ 116), (0, u "java/io/Serializable")] 87

/-- java/lang/Enum -/
def k5 : Class := { plain "java/lang/Enum" (some 0) with
  accessFlags := 1057
  interfaces := #[2, 3, 4]
  cf := some (fileOf pool5 2 #[.nestMembers #[106]] #[] 1057 12 #[111, 113, 115] #[{ accessFlags := 18, nameIndex := 5, descriptorIndex := 6, attributes := #[] }, { accessFlags := 18, nameIndex := 9, descriptorIndex := 10, attributes := #[] }, { accessFlags := 2, nameIndex := 19, descriptorIndex := 10, attributes := #[] }])
  fields := #[{ name := "name", type := (.object "java/lang/String"), accessFlags := 18, slot := 0, constantValue := 0 }, { name := "ordinal", type := .int, accessFlags := 18, slot := 1, constantValue := 0 }, { name := "hash", type := .int, accessFlags := 2, slot := 2, constantValue := 0 }]
  methods := #[]
  instanceTypes := #[(.object "java/lang/String"), .int, .int]
  staticTypes := #[]
  resolved := Array.replicate 204 none
  statics := none }

def pool6 : Array CpInfo := pool [(1, .class_ 2), (0, u "com/example/envelope/envelope/ProtobufFields$ValueCase"), (2, u "CE_BOOLEAN"), (0, u "Lcom/example/envelope/envelope/ProtobufFields$ValueCase;"), (2, u "CE_INTEGER"), (2, u "CE_STRING"), (2, u "CE_BYTES"), (2, u "CE_URI"), (2, u "CE_URI_REF"), (2, u "CE_TIMESTAMP"), (2, u "$VALUES"), (0, u "[Lcom/example/envelope/envelope/ProtobufFields$ValueCase;"), (6, .class_ 37), (1, u "java/lang/Enum"), (8, u "number"), (0, u "I"), (2, u "type"), (0, u "Lcom/example/envelope/envelope/AttributeType;"), (18, u "fieldName"), (0, u "Ljava/lang/String;"), (2, u "BY_TYPE"), (6, .fieldref 1 82), (0, .nameAndType 83 28), (0, u "BY_NUMBER"), (2, u "CASES"), (61, u "ofNumber"), (0, u "(I)Lcom/example/envelope/envelope/ProtobufFields$ValueCase;"), (8, .class_ 159), (0, u "com/example/envelope/envelope/ProtobufFields")] 2

def k6c0 : Code := { maxStack := 2, maxLocals := 1, code := prog_24_method_5_code, exceptionTable := #[], attributes := #[] }
def k6m0 : Method := { name := "ofNumber", desc := "(I)Lcom/example/envelope/envelope/ProtobufFields$ValueCase;", sig := { parameters := [.int], returnType := some (.object "com/example/envelope/envelope/ProtobufFields$ValueCase") }, accessFlags := 8, code := some k6c0 }
/-- com/example/envelope/envelope/ProtobufFields$ValueCase -/
def k6 : Class := { plain "com/example/envelope/envelope/ProtobufFields$ValueCase" (some 5) with
  accessFlags := 16432
  interfaces := #[]
  cf := some (fileOf pool6 1 #[.nestHost 158] #[{ accessFlags := 8, nameIndex := 148, descriptorIndex := 149, attributes := #[] }] 16432 35 #[] #[{ accessFlags := 16409, nameIndex := 5, descriptorIndex := 6, attributes := #[] }, { accessFlags := 16409, nameIndex := 9, descriptorIndex := 6, attributes := #[] }, { accessFlags := 16409, nameIndex := 12, descriptorIndex := 6, attributes := #[] }, { accessFlags := 16409, nameIndex := 15, descriptorIndex := 6, attributes := #[] }, { accessFlags := 16409, nameIndex := 18, descriptorIndex := 6, attributes := #[] }, { accessFlags := 16409, nameIndex := 21, descriptorIndex := 6, attributes := #[] }, { accessFlags := 16409, nameIndex := 24, descriptorIndex := 6, attributes := #[] }, { accessFlags := 26, nameIndex := 86, descriptorIndex := 28, attributes := #[] }, { accessFlags := 26, nameIndex := 83, descriptorIndex := 28, attributes := #[] }, { accessFlags := 26, nameIndex := 74, descriptorIndex := 28, attributes := #[] }, { accessFlags := 18, nameIndex := 46, descriptorIndex := 47, attributes := #[] }, { accessFlags := 18, nameIndex := 50, descriptorIndex := 51, attributes := #[] }, { accessFlags := 18, nameIndex := 70, descriptorIndex := 71, attributes := #[] }, { accessFlags := 4122, nameIndex := 27, descriptorIndex := 28, attributes := #[] }])
  fields := #[{ name := "CE_BOOLEAN", type := (.object "com/example/envelope/envelope/ProtobufFields$ValueCase"), accessFlags := 16409, slot := 0, constantValue := 0 }, { name := "CE_INTEGER", type := (.object "com/example/envelope/envelope/ProtobufFields$ValueCase"), accessFlags := 16409, slot := 1, constantValue := 0 }, { name := "CE_STRING", type := (.object "com/example/envelope/envelope/ProtobufFields$ValueCase"), accessFlags := 16409, slot := 2, constantValue := 0 }, { name := "CE_BYTES", type := (.object "com/example/envelope/envelope/ProtobufFields$ValueCase"), accessFlags := 16409, slot := 3, constantValue := 0 }, { name := "CE_URI", type := (.object "com/example/envelope/envelope/ProtobufFields$ValueCase"), accessFlags := 16409, slot := 4, constantValue := 0 }, { name := "CE_URI_REF", type := (.object "com/example/envelope/envelope/ProtobufFields$ValueCase"), accessFlags := 16409, slot := 5, constantValue := 0 }, { name := "CE_TIMESTAMP", type := (.object "com/example/envelope/envelope/ProtobufFields$ValueCase"), accessFlags := 16409, slot := 6, constantValue := 0 }, { name := "CASES", type := (.array (.object "com/example/envelope/envelope/ProtobufFields$ValueCase")), accessFlags := 26, slot := 7, constantValue := 0 }, { name := "BY_NUMBER", type := (.array (.object "com/example/envelope/envelope/ProtobufFields$ValueCase")), accessFlags := 26, slot := 8, constantValue := 0 }, { name := "BY_TYPE", type := (.array (.object "com/example/envelope/envelope/ProtobufFields$ValueCase")), accessFlags := 26, slot := 9, constantValue := 0 }, { name := "number", type := .int, accessFlags := 18, slot := 3, constantValue := 0 }, { name := "type", type := (.object "com/example/envelope/envelope/AttributeType"), accessFlags := 18, slot := 4, constantValue := 0 }, { name := "fieldName", type := (.object "java/lang/String"), accessFlags := 18, slot := 5, constantValue := 0 }, { name := "$VALUES", type := (.array (.object "com/example/envelope/envelope/ProtobufFields$ValueCase")), accessFlags := 4122, slot := 10, constantValue := 0 }]
  methods := #[k6m0]
  instanceTypes := #[(.object "java/lang/String"), .int, .int, .int, (.object "com/example/envelope/envelope/AttributeType"), (.object "java/lang/String")]
  staticTypes := #[(.object "com/example/envelope/envelope/ProtobufFields$ValueCase"), (.object "com/example/envelope/envelope/ProtobufFields$ValueCase"), (.object "com/example/envelope/envelope/ProtobufFields$ValueCase"), (.object "com/example/envelope/envelope/ProtobufFields$ValueCase"), (.object "com/example/envelope/envelope/ProtobufFields$ValueCase"), (.object "com/example/envelope/envelope/ProtobufFields$ValueCase"), (.object "com/example/envelope/envelope/ProtobufFields$ValueCase"), (.array (.object "com/example/envelope/envelope/ProtobufFields$ValueCase")), (.array (.object "com/example/envelope/envelope/ProtobufFields$ValueCase")), (.array (.object "com/example/envelope/envelope/ProtobufFields$ValueCase")), (.array (.object "com/example/envelope/envelope/ProtobufFields$ValueCase"))]
  resolved := Array.replicate 162 none
  statics := some 0 }

def pool7 : Array CpInfo := pool [(1, u "java/lang/Cloneable"), (0, .class_ 1), (0, u "java/lang/Object"), (0, .class_ 3)] 3

/-- java/lang/Cloneable -/
def k7 : Class := { plain "java/lang/Cloneable" (some 0) with
  accessFlags := 1537
  interfaces := #[]
  cf := some (fileOf pool7 2 #[] #[] 1537 4 #[] #[])
  fields := #[]
  methods := #[]
  instanceTypes := #[]
  staticTypes := #[]
  resolved := Array.replicate 8 none
  statics := none }

/-- the primitive byte -/
def k8 : Class := { plain "byte" none with kind := .primitive 'B', accessFlags := 0x411 }
/-- [B -/
def k9 : Class := { plain "[B" (some 0) with kind := .array 8 .byte, interfaces := #[7, 4], accessFlags := 1041 }

/-- the primitive int -/
def k10 : Class := { plain "int" none with kind := .primitive 'I', accessFlags := 0x411 }
/-- [I -/
def k11 : Class := { plain "[I" (some 0) with kind := .array 10 .int, interfaces := #[7, 4], accessFlags := 1041 }

/-- [Lcom/example/envelope/envelope/ProtobufFields$ValueCase; -/
def k12 : Class := { plain "[Lcom/example/envelope/envelope/ProtobufFields$ValueCase;" (some 0) with kind := .array 6 (.object "com/example/envelope/envelope/ProtobufFields$ValueCase"), interfaces := #[7, 4], accessFlags := 1041 }

def heap : Heap := #[{ cls := 6, slots := #[.ref 2, .ref 3, .ref 4, .ref 5, .ref 6, .ref 7, .ref 8, .null, .ref 1, .null, .null], vm := .statics 6 },
  { cls := 12, slots := #[.null, .ref 2, .ref 3, .ref 4, .ref 5, .ref 6, .ref 7, .ref 8], vm := .none },
  { cls := 6, slots := #[.null, .int 0, .int 0, .int 0, .null, .null], vm := .none },
  { cls := 6, slots := #[.null, .int 1, .int 0, .int 0, .null, .null], vm := .none },
  { cls := 6, slots := #[.null, .int 2, .int 0, .int 0, .null, .null], vm := .none },
  { cls := 6, slots := #[.null, .int 3, .int 0, .int 0, .null, .null], vm := .none },
  { cls := 6, slots := #[.null, .int 4, .int 0, .int 0, .null, .null], vm := .none },
  { cls := 6, slots := #[.null, .int 5, .int 0, .int 0, .null, .null], vm := .none },
  { cls := 6, slots := #[.null, .int 6, .int 0, .int 0, .null, .null], vm := .none }]
def classes : Array Class := #[k0, k1, k2, k3, k4, k5, k6, k7, k8, k9, k10, k11, k12]
def interned : List (Array UInt16 × Addr) := []
def slotsUsed : Nat := 61
def theMethod : MethodId := ⟨1, 1⟩
def args0 : Array Value := #[.int 1, .int 2]
def aboutOver (below : List Frame) : State where
  vm := { classes := classes, interned := interned.toArray }
  heap := heap
  slotsUsed := slotsUsed
  threads := #[{ frames := .invoking theMethod args0 :: below }]
def below0 : List Frame := [.native { method := ⟨0, 0⟩, args := #[] }]
def about1 : State := aboutOver below0
def p0 : Program := .bare "" "" ""
def e0 : Env := launch0.env 0 0 0
theorem w_frames : about1.frames = Frame.invoking theMethod args0 :: below0 := rfl
set_option maxRecDepth 65536 in
theorem w_args : argsFit about1.vm theMethod args0 = true := by decide +kernel
set_option maxRecDepth 65536 in
theorem w_heap : heapFits about1 = true := by decide +kernel
set_option maxRecDepth 65536 in
theorem w_runnable : about1.curStatus? = some .runnable := by decide +kernel
set_option maxRecDepth 65536 in
theorem w_alone : about1.alone = true := by decide +kernel
set_option maxRecDepth 65536 in
theorem w_named : about1.methodNamed? x = some theMethod := by decide +kernel
set_option maxRecDepth 65536 in
theorem w_hears : about1.hears theMethod below0 = true := by decide +kernel
set_option maxRecDepth 65536 in
theorem w_ripe : about1.ripe theMethod args0 below0 = true := by decide +kernel
theorem w_running : about1.status = .running := rfl
set_option maxRecDepth 65536 in
theorem w_room : about1.hasRoom e0.platform room_1 = true :=
  launch0.hasRoom_least _ room_1 (by decide +kernel) (by decide +kernel) (by decide +kernel) (by decide +kernel) (by decide +kernel) (by decide +kernel)
theorem allAtoms_all (ts : List Jvm.Cond) (a : Array Jvm.Value) (st : Jvm.State) : (allAtoms ts).before a st = ts.all (fun c => c.before a st) := by
  induction ts with
  | nil => rfl
  | cons c t ih =>
    show (Jvm.Cond.and c (allAtoms t)).before a st = _
    rw [Jvm.Cond.before_and, ih, List.all_cons]
def words1 : List Jvm.Cond := Jvm.Cond.code x code maxLocals ret :: tables_1
/-- a 'code' word, met by the world's own term for the bytes: nothing is compared byte by byte -/
theorem code_word {y : MethodName} {bytes : ByteArray} {mx : Nat} {rt : Option FieldType} {a : Array Value} {s : State} {m : MethodId} {meth : Method} {c : Code} (h1 : s.methodNamed? y = some m) (h2 : s.vm.method? m = some meth) (h3 : meth.code = some c) (h4 : c.code = bytes)
    (h5 : (c.maxLocals == mx && c.exceptionTable.isEmpty && decide (c.maxStack ≤ mostOperands) && decide (meth.sig.returnType = rt) && !meth.locks && decide (parseMethodDescriptor y.desc = some meth.sig)) = true) : (Jvm.Cond.code y bytes mx rt).before a s = true := by
  simp only [Bool.and_eq_true, beq_iff_eq, Bool.not_eq_true', decide_eq_true_eq] at h5
  obtain ⟨⟨⟨⟨⟨g1, g2⟩, g3⟩, g4⟩, g5⟩, g6⟩ := h5
  simp [Cond.before, Cond.holds, Cond.value, h1, h2, h3, h4, g1, g2, g3, g4, g5, g6]
def isCode : Jvm.Cond → Bool
  | .code _ _ _ _ => true
  | _ => false
theorem all_split {L : List Jvm.Cond} {P : Jvm.Cond → Bool} (h1 : L.all (fun c => isCode c || P c) = true) (h2 : ∀ c ∈ L.filter isCode, P c = true) : L.all P = true := by
  refine List.all_eq_true.mpr fun c hc => ?_
  have h := List.all_eq_true.mp h1 c hc
  rcases Bool.eq_false_or_eq_true (isCode c) with hi | hi
  · exact h2 c (List.mem_filter.mpr ⟨hc, hi⟩)
  · simpa [hi] using h
set_option maxRecDepth 65536 in
theorem w_c0 : (Jvm.Cond.code x code maxLocals ret).before args0 about1 = true := code_word (m := ⟨1, 1⟩) (meth := k1m1) (c := k1c1) (by decide +kernel) rfl rfl rfl (by decide +kernel)
set_option maxRecDepth 65536 in
theorem w_c1 : (Jvm.Cond.code ({ cls := "com/example/envelope/envelope/ProtobufFields$ValueCase", name := "ofNumber", desc := "(I)Lcom/example/envelope/envelope/ProtobufFields$ValueCase;" } : Jvm.MethodName) prog_24_method_5_code (1 : Nat) (Option.some (Jvm.ClassFile.FieldType.object "com/example/envelope/envelope/ProtobufFields$ValueCase"))).before args0 about1 = true := code_word (m := ⟨6, 0⟩) (meth := k6m0) (c := k6c0) (by decide +kernel) rfl rfl rfl (by decide +kernel)
set_option maxRecDepth 65536 in
theorem w_c2 : (Jvm.Cond.code ({ cls := "com/example/envelope/envelope/ValueCaseOfNumberPinLaw", name := "expected", desc := "(I)Lcom/example/envelope/envelope/ProtobufFields$ValueCase;" } : Jvm.MethodName) method_3_code (1 : Nat) (Option.some (Jvm.ClassFile.FieldType.object "com/example/envelope/envelope/ProtobufFields$ValueCase"))).before args0 about1 = true := code_word (m := ⟨1, 2⟩) (meth := k1m2) (c := k1c2) (by decide +kernel) rfl rfl rfl (by decide +kernel)
def codes1 : List Jvm.Cond := [Jvm.Cond.code x code maxLocals ret, Jvm.Cond.code ({ cls := "com/example/envelope/envelope/ProtobufFields$ValueCase", name := "ofNumber", desc := "(I)Lcom/example/envelope/envelope/ProtobufFields$ValueCase;" } : Jvm.MethodName) prog_24_method_5_code (1 : Nat) (Option.some (Jvm.ClassFile.FieldType.object "com/example/envelope/envelope/ProtobufFields$ValueCase")), Jvm.Cond.code ({ cls := "com/example/envelope/envelope/ValueCaseOfNumberPinLaw", name := "expected", desc := "(I)Lcom/example/envelope/envelope/ProtobufFields$ValueCase;" } : Jvm.MethodName) method_3_code (1 : Nat) (Option.some (Jvm.ClassFile.FieldType.object "com/example/envelope/envelope/ProtobufFields$ValueCase"))]
set_option maxRecDepth 65536 in
theorem codes_eq : words1.filter isCode = codes1 := rfl
theorem w_codes : ∀ c ∈ words1.filter isCode, c.before args0 about1 = true := by
  rw [codes_eq]
  intro c hc
  simp only [codes1, List.mem_cons, List.not_mem_nil, or_false] at hc
  rcases hc with rfl | rfl | rfl
  · exact w_c0
  · exact w_c1
  · exact w_c2
set_option maxRecDepth 65536 in
theorem w_t1 : (words1.take 24).all (fun c => isCode c || c.before args0 about1) = true := by decide +kernel
set_option maxRecDepth 65536 in
theorem w_t2 : (words1.drop 24).all (fun c => isCode c || c.before args0 about1) = true := by decide +kernel
theorem w_tables : (allAtoms (Jvm.Cond.code x code maxLocals ret :: tables_1)).before args0 about1 = true := by
  rw [allAtoms_all]
  show words1.all (fun c => c.before args0 about1) = true
  refine all_split ?_ w_codes
  rw [← List.take_append_drop 24 words1, List.all_append, w_t1, w_t2]
  rfl
set_option maxRecDepth 65536 in
theorem w_case : (Jvm.Cond.and given_1 narrow_1).before args0 about1 = true := by decide +kernel
theorem w_applies : (headSpec (Jvm.Cond.code x code maxLocals ret :: tables_1) room_1).applies x e0.platform about1 = true :=
  (Spec.applies_iff w_frames).mpr ⟨w_running, w_runnable, w_alone, w_named, w_hears, w_ripe, w_room, w_tables⟩
theorem atStart : AtStart classFile x code maxLocals ret World_1 tables_1 room_1 Calls_1 rest_1 Pre_1 launch0 p0 e0 about1 theMethod args0 below0 :=
  ⟨lists_1, trivial, launch0.admits_env _ _ _, launch0.least_env, fairChoices_fair.cas, fairChoices_fair.clock, w_frames, w_args, w_heap, w_applies, trivial, trivial, w_case⟩
end start1
theorem witness_1 : WitnessClaimed_1 := ⟨start1.p0, start1.e0, start1.about1, start1.theMethod, start1.args0, start1.below0, start1.atStart⟩
end Jvm.Pilot.@@N@@
