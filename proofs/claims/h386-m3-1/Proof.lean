import JvmDerived
import JvmDerived.Pilot.@@N@@Statement
import JvmDerived.Pilot.@@N@@Code
set_option linter.unusedVariables false
set_option linter.unusedSimpArgs false
namespace Jvm.Pilot.@@N@@
open Jvm Jvm.ClassFile Sem Op Lib Jvm.Free Jvm.Stand Jvm.LawKit Jvm.RoadKit Bundle Jvm.Pilot.@@N@@.Jvm.D
section OwnKit
variable {p : Program} {l : Launch} {e : Env} {R : Room} {s : State} {m : MethodId} {args : Array Value} {below : List Frame} {meth : Method} {c : Code} {T : State} {locs : List Loc} {cells slots : Nat} {Z : State} {a0 : Array Value} {h : Heap}
/-- the run from t ends, and Q holds of its end -/
def own_Fin (tb : Tables) (e : Env) (below : List Frame) (Q : Outcome → State → Prop) (t : State) : Prop := ∃ s₂ o, Steps tb e below t s₂ ∧ s₂.status = .running ∧ Ended s₂ below o ∧ Q o s₂
theorem own_go {tb : Tables} {Q : Outcome → State → Prop} {t t' : State} (k : ∀ z, Steps tb e below t' z → Steps tb e below t z) (f : own_Fin tb e below Q t') : own_Fin tb e below Q t := by
  obtain ⟨s₂, o, h1, h2⟩ := f
  exact ⟨s₂, o, k _ h1, h2⟩
/-- the run from t comes to a state of which G holds -/
def own_Go (tb : Tables) (e : Env) (below : List Frame) (G : State → Prop) (t : State) : Prop := ∃ t', G t' ∧ ∀ z, Steps tb e below t' z → Steps tb e below t z
theorem own_on {tb : Tables} {G : State → Prop} {t t' : State} (k : ∀ z, Steps tb e below t' z → Steps tb e below t z) (f : own_Go tb e below G t') : own_Go tb e below G t := by
  obtain ⟨t₂, h1, h2⟩ := f
  exact ⟨t₂, h1, fun z q => k z (h2 z q)⟩
theorem own_here {tb : Tables} {G : State → Prop} {t : State} (k : G t) : own_Go tb e below G t := ⟨t, k, fun _ q => q⟩
def own_End (s : State) (Q : Option Value → Heap → List Loc → Prop) (C S : Nat) (o : Outcome) (U : State) : Prop := ∃ v L, o = .returned v ∧ Q v U.heap L ∧ FrameEnd s o U L C S
variable {Q : Option Value → Heap → List Loc → Prop} {C S : Nat}
theorem own_retI (X : Stand p l e R s m args below meth c T locs cells slots) (hx : p.tables.exec = Jvm.exec) (hlk : meth.locks = false) {pc : Nat} {Ls : Array Slot} {z : Int32} {rest : List Value} (hret : meth.sig.returnType = some .int) (hd : decode c.code pc = .ok (.ireturn, 1)) (hq : Q (some (.int z)) T.heap locs) (hC : cells ≤ C) (hS : slots ≤ S) :
    own_Fin p.tables e below (own_End s Q C S) (T.setTop (mkF m pc Ls (.int z :: rest))) := by
  obtain ⟨fs, hr, hrun, hended, hW, hsame⟩ := X.leave (v := some (.int z)) (fun h => by rw [hret] at h; cases h) hlk
  exact ⟨_, _, retOut X hx hret rfl (Or.inl ⟨rfl, Or.inl rfl, _, rfl⟩) hd hr, hrun, hended, _, _, rfl, hq, ⟨_, rfl⟩, hW, hsame.mono hC hS⟩
theorem own_retN (X : Stand p l e R s m args below meth c T locs cells slots) (hx : p.tables.exec = Jvm.exec) (hlk : meth.locks = false) {pc : Nat} {Ls : Array Slot} {z : Int32} {rest : List Value} {t : FieldType} (hret : meth.sig.returnType = some t) (ht : t = .boolean ∨ t = .byte ∨ t = .char ∨ t = .short) (hd : decode c.code pc = .ok (.ireturn, 1)) (hq : Q (some (.int (nar t z))) T.heap locs) (hC : cells ≤ C) (hS : slots ≤ S) :
    own_Fin p.tables e below (own_End s Q C S) (T.setTop (mkF m pc Ls (.int z :: rest))) := by
  obtain ⟨fs, hr, hrun, hended, hW, hsame⟩ := X.leave (v := some (.int (nar t z))) (fun h => by rw [hret] at h; cases h) hlk
  exact ⟨_, _, retN X hx hret ht hd hr, hrun, hended, _, _, rfl, hq, ⟨_, rfl⟩, hW, hsame.mono hC hS⟩
theorem own_retJ (X : Stand p l e R s m args below meth c T locs cells slots) (hx : p.tables.exec = Jvm.exec) (hlk : meth.locks = false) {pc : Nat} {Ls : Array Slot} {z : Int64} {rest : List Value} (hret : meth.sig.returnType = some .long) (hd : decode c.code pc = .ok (.lreturn, 1)) (hq : Q (some (.long z)) T.heap locs) (hC : cells ≤ C) (hS : slots ≤ S) :
    own_Fin p.tables e below (own_End s Q C S) (T.setTop (mkF m pc Ls (.long z :: rest))) := by
  obtain ⟨fs, hr, hrun, hended, hW, hsame⟩ := X.leave (v := some (.long z)) (fun h => by rw [hret] at h; cases h) hlk
  exact ⟨_, _, retOut X hx hret rfl (Or.inr (Or.inl ⟨rfl, rfl, _, rfl⟩)) hd hr, hrun, hended, _, _, rfl, hq, ⟨_, rfl⟩, hW, hsame.mono hC hS⟩
theorem own_retA (X : Stand p l e R s m args below meth c T locs cells slots) (hx : p.tables.exec = Jvm.exec) (hlk : meth.locks = false) {pc : Nat} {Ls : Array Slot} {w : Value} {rest : List Value} {t : FieldType} (hret : meth.sig.returnType = some t) (ht : t.isReference = true) (hw : w.isRef = true) (hd : decode c.code pc = .ok (.areturn, 1)) (hq : Q (some w) T.heap locs) (hC : cells ≤ C) (hS : slots ≤ S) :
    own_Fin p.tables e below (own_End s Q C S) (T.setTop (mkF m pc Ls (w :: rest))) := by
  obtain ⟨fs, hr, hrun, hended, hW, hsame⟩ := X.leave (v := some w) (fun h => by rw [hret] at h; cases h) hlk
  have hn : narrow t w = w := by cases t <;> first | (cases ht; done) | (cases w <;> first | (cases hw; done) | rfl)
  exact ⟨_, _, retOut X hx hret hn (Or.inr (Or.inr (Or.inr (Or.inr ⟨rfl, ht, hw⟩)))) hd hr, hrun, hended, _, _, rfl, hq, ⟨_, rfl⟩, hW, hsame.mono hC hS⟩
theorem own_retV (X : Stand p l e R s m args below meth c T locs cells slots) (hx : p.tables.exec = Jvm.exec) (hlk : meth.locks = false) {pc : Nat} {Ls : Array Slot} (hret : meth.sig.returnType = none) (hd : decode c.code pc = .ok (.return_, 1)) (hq : Q none T.heap locs) (hC : cells ≤ C) (hS : slots ≤ S) :
    own_Fin p.tables e below (own_End s Q C S) (T.setTop (mkF m pc Ls [])) := by
  obtain ⟨fs, hr, hrun, hended, hW, hsame⟩ := X.leave (v := none) (fun _ => rfl) hlk
  exact ⟨_, _, X.returnOut hx hret hd hr, hrun, hended, _, _, rfl, hq, ⟨_, rfl⟩, hW, hsame.mono hC hS⟩
/-- what a body's contract says: called with as' at the heap h0 it returns, and Q holds of what it returns, of the heap and of the places written -/
def own_Met (l : Launch) (y : MethodName) (bytes : ByteArray) (maxL : Nat) (ret : Option FieldType) (rm : Room) (ws : List Jvm.Cond) (as' : Array Value) (Z : State) (h0 : Heap) (C S : Nat) (Q : Option Value → Heap → List Loc → Prop) : Prop :=
  MetFree l y (head1 (Jvm.Cond.code y bytes maxL ret :: ws) rm) (fun a U => a = as' ∧ Z.Warmed39 U.vm ∧ U.heap = h0) (fun _ _ _ _ _ => True) (fun _ U o U' => ∃ v L, o = .returned v ∧ Q v U'.heap L ∧ FrameEnd U o U' L C S)
theorem own_met {y : MethodName} {bytes : ByteArray} {maxL : Nat} {ret : Option FieldType} {rm : Room} {ws : List Jvm.Cond} {as' : Array Value} {h0 : Heap} (hy : plainFor y = true)
    (body : ∀ (p : Program) (e : Env) (s : State) (m : MethodId) (below : List Frame) (meth : Method) (c : Code) (s₁ : State), p.tables.exec = Jvm.exec → c.code = bytes → c.maxLocals = maxL → s.vm.findClass y.cls = some m.cls → meth.name = y.name → meth.sig.returnType = ret → meth.locks = false → Z.Warmed39 s.vm → s₁.heap = h0 → Stand p l e rm s m as' below meth c s₁ [] 0 0 → own_Fin p.tables e below (own_End s Q C S) (s₁.setTop (entryFrame m as' maxL))) :
    own_Met l y bytes maxL ret rm ws as' Z h0 C S Q := by
  refine MetFree.of_bodySF hy hisR ?_
  intro p e s m args below meth c s₁ Bd hml0 hP hK
  obtain ⟨rfl, hZ, hh⟩ := hP
  have X0 : Stand p l e rm s m args below meth c s₁ [] 0 0 := Stand.of_body Bd
  exact body p e s m below meth c s₁ Bd.exec Bd.bytes hml0 (findClass_of_methodNamed Bd.named) (name_of_methodNamed Bd.named Bd.method).1 Bd.returns Bd.notSynchronized hZ (by rw [← hh, Bd.state]; rfl) X0
section Calls
variable {own : String} {index : Nat} {y : MethodName} {bytes : ByteArray} {maxL : Nat} {ret : Option FieldType} {rm : Room} {as' : Array Value}
theorem own_callS (X : Stand p l e R s m args below meth c T locs cells slots) (hx : p.tables.exec = Jvm.exec) (hZ : Z.Warmed39 s.vm) (hown : s.vm.findClass own = some m.cls) (w1 : (Jvm.Cond.methodLink own index y).before a0 Z = true) (w2 : (Jvm.Cond.static y).before a0 Z = true) (w3 : (Jvm.Cond.initialized y.cls).before a0 Z = true) (w4 : (Jvm.Cond.code y bytes maxL ret).before a0 Z = true)
    (hy : y.cls ≠ "java/lang/invoke/MethodHandle" ∧ y.cls ≠ "java/lang/invoke/VarHandle") {W : Nat} (hM : own_Met l y bytes maxL ret rm [] as' Z h rm.cells rm.slots Q) (hf : rm.frames + 1 ≤ R.frames) (hl : W + (maxL + 11) + rm.locals ≤ R.locals) (eT : T.heap = h)
    {g : JFrame} (hg : g.method = m) (hsize : g.locals.size = c.maxLocals) {argsL rest : List Value} (has : argsL.toArray = as') (hlen : ∀ sig, parseMethodDescriptor y.desc = some sig → argsL.length = sig.parameters.length)
    (hstack : g.stack = argsL.reverse ++ rest) (hW : 2 * g.monitorRoom + (rest.map fun v => v.category).sum ≤ W) (hdg : decode c.code g.pc = .ok (.invokestatic index, 3)) (hc : cells + rm.cells ≤ R.cells) (hs : slots + rm.slots ≤ R.slots) :
    ∃ (v : Option Value) (T' : State) (L' : List Loc), Stand p l e R s m args below meth c T' (locs ++ L') (cells + rm.cells) (slots + rm.slots) ∧ Q v T'.heap L' ∧
      ∀ t, Steps p.tables e below (T'.setTop { g with pc := g.pc + 3, stack := v.toList ++ rest }) t → Steps p.tables e below (T.setTop g) t := by
  obtain ⟨v, vm1, ⟨T', L, k, n⟩, -, X', ⟨L', hQ, e1, e2, e3⟩, st⟩ := Jvm.LawKit.callS X hx hown (mvT hZ w1) (mvT hZ w2) (mvT hZ w3) (mvT hZ w4) hy (backOf (W := W) hM hZ w4 w3 hf hl) hg hsize hlen hstack hW hdg (fun _ _ => ⟨has, eT, hc, hs⟩)
  dsimp only [Pt.U, Pt.locs, Pt.cells, Pt.slots] at X' e1 e2 e3 st hQ
  subst e1 e2 e3
  exact ⟨v, T', L', X', hQ, st⟩
theorem own_callC (X : Stand p l e R s m args below meth c T locs cells slots) (hx : p.tables.exec = Jvm.exec) (hZ : Z.Warmed39 s.vm) (hown : s.vm.findClass own = some m.cls) (hnm : y.name = "<init>") (w1 : (Jvm.Cond.methodLink own index y).before a0 Z = true) (w2 : (Jvm.Cond.instanceMethod y).before a0 Z = true) (w3 : (Jvm.Cond.initialized y.cls).before a0 Z = true) (w4 : (Jvm.Cond.code y bytes maxL none).before a0 Z = true)
    (hy : y.cls ≠ "java/lang/invoke/MethodHandle" ∧ y.cls ≠ "java/lang/invoke/VarHandle") {W : Nat} (hM : own_Met l y bytes maxL none rm [] as' Z h rm.cells rm.slots Q) (hf : rm.frames + 1 ≤ R.frames) (hl : W + (maxL + 11) + rm.locals ≤ R.locals) (eT : T.heap = h)
    {g : JFrame} (hg : g.method = m) (hsize : g.locals.size = c.maxLocals) {a : Addr} {argsL rest : List Value} (has : (.ref a :: argsL).toArray = as') (hlen : ∀ sig, parseMethodDescriptor y.desc = some sig → argsL.length = sig.parameters.length)
    (hstack : g.stack = argsL.reverse ++ .ref a :: rest) (hW : 2 * g.monitorRoom + (rest.map fun v => v.category).sum ≤ W) (hdg : decode c.code g.pc = .ok (.invokespecial index, 3)) (hc : cells + rm.cells ≤ R.cells) (hs : slots + rm.slots ≤ R.slots) :
    ∃ (v : Option Value) (T' : State) (L' : List Loc), Stand p l e R s m args below meth c T' (locs ++ L') (cells + rm.cells) (slots + rm.slots) ∧ Q v T'.heap L' ∧
      ∀ t, Steps p.tables e below (T'.setTop { g with pc := g.pc + 3, stack := v.toList ++ rest }) t → Steps p.tables e below (T.setTop g) t := by
  obtain ⟨v, vm1, ⟨T', L, k, n⟩, -, X', ⟨L', hQ, e1, e2, e3⟩, st⟩ := X.specialBack hx hnm hown (mvT hZ w1) (mvT hZ w2) (mvT hZ w4) hy (backOf (W := W) hM hZ w4 w3 hf hl) hg hsize (Steps.refl _) hlen hstack hW hdg (fun _ _ => ⟨has, eT, hc, hs⟩)
  dsimp only [Pt.U, Pt.locs, Pt.cells, Pt.slots] at X' e1 e2 e3 st hQ
  subst e1 e2 e3
  exact ⟨v, T', L', X', hQ, fun _ k => st.trans k⟩
theorem own_callV (X : Stand p l e R s m args below meth c T locs cells slots) (hx : p.tables.exec = Jvm.exec) (hZ : Z.Warmed39 s.vm) (hown : s.vm.findClass own = some m.cls) {D : String} (w1 : (Jvm.Cond.methodLink own index y).before a0 Z = true) (w2 : (Jvm.Cond.declares y).before a0 Z = true) (w3 : (Jvm.Cond.selects D y y).before a0 Z = true) (w4 : (Jvm.Cond.instanceMethod y).before a0 Z = true) (w5 : (Jvm.Cond.initialized y.cls).before a0 Z = true) (w6 : (Jvm.Cond.code y bytes maxL ret).before a0 Z = true)
    (hy : y.cls ≠ "java/lang/invoke/MethodHandle" ∧ y.cls ≠ "java/lang/invoke/VarHandle") {W : Nat} (hM : own_Met l y bytes maxL ret rm [] as' Z h rm.cells rm.slots Q) (hf : rm.frames + 1 ≤ R.frames) (hl : W + (maxL + 11) + rm.locals ≤ R.locals) (eT : T.heap = h) {a : Addr} (E : Exa Z h a D)
    {g : JFrame} (hg : g.method = m) (hsize : g.locals.size = c.maxLocals) {argsL rest : List Value} (has : (.ref a :: argsL).toArray = as') (hlen : ∀ sig, parseMethodDescriptor y.desc = some sig → argsL.length = sig.parameters.length)
    (hstack : g.stack = argsL.reverse ++ .ref a :: rest) (hW : 2 * g.monitorRoom + (rest.map fun v => v.category).sum ≤ W) (hdg : decode c.code g.pc = .ok (.invokevirtual index, 3)) (hc : cells + rm.cells ≤ R.cells) (hs : slots + rm.slots ≤ R.slots) :
    ∃ (v : Option Value) (T' : State) (L' : List Loc), Stand p l e R s m args below meth c T' (locs ++ L') (cells + rm.cells) (slots + rm.slots) ∧ Q v T'.heap L' ∧
      ∀ t, Steps p.tables e below (T'.setTop { g with pc := g.pc + 3, stack := v.toList ++ rest }) t → Steps p.tables e below (T.setTop g) t := by
  obtain ⟨cq, kq, qa, qb, qc⟩ := isOf hZ eT E
  obtain ⟨v, vm1, ⟨T', L, k, n⟩, -, X', ⟨L', hQ, e1, e2, e3⟩, st⟩ := X.virtualBack hx hown (mvT hZ w1) (mvT hZ w2) (notFace_of_selects (args := #[]) (mvT hZ w3)) (mvT hZ w3) (mvT hZ w4) hy (backOf (W := W) hM hZ w6 w5 hf hl) qa qc hg hsize (Steps.refl _) hlen hstack hW hdg (fun _ _ => ⟨has, eT, hc, hs⟩)
  dsimp only [Pt.U, Pt.locs, Pt.cells, Pt.slots] at X' e1 e2 e3 st hQ
  subst e1 e2 e3
  exact ⟨v, T', L', X', hQ, fun _ k => st.trans k⟩
/-- as own_callC, own_callV, where who pays is given -/
theorem own_callCB (X : Stand p l e R s m args below meth c T locs cells slots) (hx : p.tables.exec = Jvm.exec) (hZ : Z.Warmed39 s.vm) (hown : s.vm.findClass own = some m.cls) (hnm : y.name = "<init>") (w1 : (Jvm.Cond.methodLink own index y).before a0 Z = true) (w2 : (Jvm.Cond.instanceMethod y).before a0 Z = true) (w4 : (Jvm.Cond.code y bytes maxL none).before a0 Z = true)
    (hy : y.cls ≠ "java/lang/invoke/MethodHandle" ∧ y.cls ≠ "java/lang/invoke/VarHandle") {W kc kn : Nat} (hK : Back l R p e below s args y 3 W (fun P a => a = as' ∧ P.U.heap = h ∧ P.cells + kc ≤ R.cells ∧ P.slots + kn ≤ R.slots) (fun P _ v B => ∃ L, Q v B.U.heap L ∧ B.locs = P.locs ++ L ∧ B.cells = P.cells + kc ∧ B.slots = P.slots + kn)) (eT : T.heap = h)
    {g : JFrame} (hg : g.method = m) (hsize : g.locals.size = c.maxLocals) {a : Addr} {argsL rest : List Value} (has : (.ref a :: argsL).toArray = as') (hlen : ∀ sig, parseMethodDescriptor y.desc = some sig → argsL.length = sig.parameters.length)
    (hstack : g.stack = argsL.reverse ++ .ref a :: rest) (hW : 2 * g.monitorRoom + (rest.map fun v => v.category).sum ≤ W) (hdg : decode c.code g.pc = .ok (.invokespecial index, 3)) (hc : cells + kc ≤ R.cells) (hs : slots + kn ≤ R.slots) :
    ∃ (v : Option Value) (T' : State) (L' : List Loc), Stand p l e R s m args below meth c T' (locs ++ L') (cells + kc) (slots + kn) ∧ Q v T'.heap L' ∧
      ∀ t, Steps p.tables e below (T'.setTop { g with pc := g.pc + 3, stack := v.toList ++ rest }) t → Steps p.tables e below (T.setTop g) t := by
  obtain ⟨v, vm1, ⟨T', L, k, n⟩, -, X', ⟨L', hQ, e1, e2, e3⟩, st⟩ := X.specialBack hx hnm hown (mvT hZ w1) (mvT hZ w2) (mvT hZ w4) hy hK hg hsize (Steps.refl _) hlen hstack hW hdg (fun _ _ => ⟨has, eT, hc, hs⟩)
  dsimp only [Pt.U, Pt.locs, Pt.cells, Pt.slots] at X' e1 e2 e3 st hQ
  subst e1 e2 e3
  exact ⟨v, T', L', X', hQ, fun _ k => st.trans k⟩
theorem own_callVB (X : Stand p l e R s m args below meth c T locs cells slots) (hx : p.tables.exec = Jvm.exec) (hZ : Z.Warmed39 s.vm) (hown : s.vm.findClass own = some m.cls) {D : String} (w1 : (Jvm.Cond.methodLink own index y).before a0 Z = true) (w2 : (Jvm.Cond.declares y).before a0 Z = true) (w3 : (Jvm.Cond.selects D y y).before a0 Z = true) (w4 : (Jvm.Cond.instanceMethod y).before a0 Z = true)
    (hy : y.cls ≠ "java/lang/invoke/MethodHandle" ∧ y.cls ≠ "java/lang/invoke/VarHandle") {W kc kn : Nat} {Qb : Option Value → State → List Loc → Prop} (hK : Back l R p e below s args y 3 W (fun P a => a = as' ∧ P.U.heap = h ∧ P.cells + kc ≤ R.cells ∧ P.slots + kn ≤ R.slots) (fun P _ v B => ∃ L, Qb v B.U L ∧ B.locs = P.locs ++ L ∧ B.cells = P.cells + kc ∧ B.slots = P.slots + kn)) (eT : T.heap = h) {a : Addr} (E : Exa Z h a D)
    {g : JFrame} (hg : g.method = m) (hsize : g.locals.size = c.maxLocals) {argsL rest : List Value} (has : (.ref a :: argsL).toArray = as') (hlen : ∀ sig, parseMethodDescriptor y.desc = some sig → argsL.length = sig.parameters.length)
    (hstack : g.stack = argsL.reverse ++ .ref a :: rest) (hW : 2 * g.monitorRoom + (rest.map fun v => v.category).sum ≤ W) (hdg : decode c.code g.pc = .ok (.invokevirtual index, 3)) (hc : cells + kc ≤ R.cells) (hs : slots + kn ≤ R.slots) :
    ∃ (v : Option Value) (T' : State) (L' : List Loc), Stand p l e R s m args below meth c T' (locs ++ L') (cells + kc) (slots + kn) ∧ Qb v T' L' ∧
      ∀ t, Steps p.tables e below (T'.setTop { g with pc := g.pc + 3, stack := v.toList ++ rest }) t → Steps p.tables e below (T.setTop g) t := by
  obtain ⟨cq, kq, qa, qb, qc⟩ := isOf hZ eT E
  obtain ⟨v, vm1, ⟨T', L, k, n⟩, -, X', ⟨L', hQ, e1, e2, e3⟩, st⟩ := X.virtualBack hx hown (mvT hZ w1) (mvT hZ w2) (notFace_of_selects (args := #[]) (mvT hZ w3)) (mvT hZ w3) (mvT hZ w4) hy hK qa qc hg hsize (Steps.refl _) hlen hstack hW hdg (fun _ _ => ⟨has, eT, hc, hs⟩)
  dsimp only [Pt.U, Pt.locs, Pt.cells, Pt.slots] at X' e1 e2 e3 st hQ
  subst e1 e2 e3
  exact ⟨v, T', L', X', hQ, fun _ k => st.trans k⟩
end Calls
section Arrays
variable {a : Addr} {k : ClassId} {ty : FieldType} {z : Int32} {vs : List Value} {dv : Value}
theorem own_alen (X : Stand p l e R s m args below meth c T locs cells slots) (hx : p.tables.exec = Jvm.exec) (hZ : Z.Warmed39 s.vm) (eT : T.heap = h) (V : Arv Z h a k ty z vs dv) {g : JFrame} (hg : g.method = m) {rest : List Value} (hs : g.stack = .ref a :: rest) (hd : decode c.code g.pc = .ok (.arraylength, 1)) {target : State}
    (hr : Steps p.tables e below (T.setTop { g with pc := g.pc + 1, stack := .int z :: rest }) target) : Steps p.tables e below (T.setTop g) target := by
  obtain ⟨cl, Ar, -, S, M, -, -⟩ := V
  refine X.arraylength hx (cell := cl) (by rw [eT]; exact Ar.1) (State.isArrayOf_alike hZ.alike Ar.2.1) hg hs hd _ ?_
  rw [len_of S M]; exact hr
theorem own_aald {C : String} (X : Stand p l e R s m args below meth c T locs cells slots) (hx : p.tables.exec = Jvm.exec) (hZ : Z.Warmed39 s.vm) (eT : T.heap = h) (V : Arv Z h a k (.object C) z vs dv) {j : Int32} (h1 : ¬ j < 0) (h2 : j < z) {g : JFrame} (hg : g.method = m) {rest : List Value} (hs : g.stack = .int j :: .ref a :: rest) (hd : decode c.code g.pc = .ok (.aaload, 1)) {target : State}
    (hr : Steps p.tables e below (T.setTop { g with pc := g.pc + 1, stack := vs.getD j.toNatClampNeg dv :: rest }) target) : Steps p.tables e below (T.setTop g) target := by
  obtain ⟨cl, Ar, -, S, M, H, -⟩ := V
  have hin := inb_of S ⟨h1, h2⟩
  exact X.aaload hx (j := j) (v := vs.getD j.toNatClampNeg dv) (by rw [eT]; exact Ar.1) (State.isArrayOf_alike hZ.alike Ar.2.1) rfl Ar.2.2 hin (Has.at H hin rfl) hg hs hd _ hr
end Arrays
/-- a body that returns r and leaves the heap as it was -/
def own_QP (r : Option Value) (h0 : Heap) (n0 : Nat) (v : Option Value) (h : Heap) (L : List Loc) : Prop := v = r ∧ Fr n0 L ∧ h = h0
end OwnKit
theorem d1_0 : decode prog_16_method_6_code 0 = .ok (.lload_n 0, 1) := by decide +kernel
theorem d1_1 : decode prog_16_method_6_code 1 = .ok (.ldc2_w 54, 3) := by decide +kernel
theorem d1_4 : decode prog_16_method_6_code 4 = .ok (.lsub, 1) := by decide +kernel
theorem d1_5 : decode prog_16_method_6_code 5 = .ok (.lload_n 0, 1) := by decide +kernel
theorem d1_6 : decode prog_16_method_6_code 6 = .ok (.ldc2_w 50, 3) := by decide +kernel
theorem d1_9 : decode prog_16_method_6_code 9 = .ok (.lxor, 1) := by decide +kernel
theorem d1_10 : decode prog_16_method_6_code 10 = .ok (.land, 1) := by decide +kernel
theorem d1_11 : decode prog_16_method_6_code 11 = .ok (.lreturn, 1) := by decide +kernel
theorem pn0 : plainName "com/example/envelope/envelope/JsonOutput" = true := by first | (simp [plainName, overriddenIn]; done) | decide +kernel
theorem pd0 : parseMethodDescriptor "(J)J" = some ⟨[.long], some .long⟩ := by decide +kernel
theorem ef1 (m : MethodId) (j1 : Int64) : entryFrame m #[(.long j1)] 2 = mkF m 0 #[.val (.long j1), .second] [] := by first | (simp [entryFrame, mkF, argsToLocals, Value.category]; done) | rfl
def f1 (j1 : Int64) : Int64 := ((j1 - (72340172838076673 : Int64)) &&& (j1 ^^^ (-1 : Int64)))
set_option maxRecDepth 65536 in
set_option maxHeartbeats 40000000 in
theorem rm1 (l : Launch) (Z : State) (a0 : Array Value) (hw : ∀ d ∈ tables_1, d.before a0 Z = true) (ws : List Jvm.Cond) (j1 : Int64) (h0 : Heap) (n0 : Nat) (Z0 : n0 ≤ h0.size)  :
    own_Met l (⟨"com/example/envelope/envelope/JsonOutput", "zeros", "(J)J"⟩ : MethodName) prog_16_method_6_code 2 (some .long) ({ frames := 0, cells := 0, slots := 0, locals := 0 } : Room) ws #[(.long j1)] Z h0 0 0 (own_QP (some (.long (f1 j1))) h0 n0) := by
  refine own_met (plainFor_of_name pn0) ?_
  intro p e s m below meth c s₁ hx hby hml hown hnm hret hlk hZ e0 X0
  have hml : c.maxLocals = 2 := hml
  have N0 := Fr.nil n0
  have K0 := Keep.refl h0 []
  refine own_go (fun _ k => castTop (ef1 m j1) k) ?_
  show own_Fin p.tables e below _ (s₁.setTop (mkF m 0 #[.val (.long j1), .second] []))
  refine own_go (fun _ k => XT.lloadN X0.here hx rfl (hb hby d1_0) rfl k) ?_
  show own_Fin p.tables e below _ (s₁.setTop (mkF m 1 #[.val (.long j1), .second] [(.long j1)]))
  refine own_go (fun _ k => X0.ldc2J hx hown (mvT hZ (hw _ (List.mem_of_getElem? (i := 7) rfl))) rfl (hb hby d1_1) k) ?_
  show own_Fin p.tables e below _ (s₁.setTop (mkF m 4 #[.val (.long j1), .second] [(.long (72340172838076673 : Int64)), (.long j1)]))
  refine own_go (fun _ k => XT.lsub X0.here hx rfl (hb hby d1_4) rfl k) ?_
  show own_Fin p.tables e below _ (s₁.setTop (mkF m 5 #[.val (.long j1), .second] [(.long (j1 - (72340172838076673 : Int64)))]))
  refine own_go (fun _ k => XT.lloadN X0.here hx rfl (hb hby d1_5) rfl k) ?_
  show own_Fin p.tables e below _ (s₁.setTop (mkF m 6 #[.val (.long j1), .second] [(.long j1), (.long (j1 - (72340172838076673 : Int64)))]))
  refine own_go (fun _ k => X0.ldc2J hx hown (mvT hZ (hw _ (List.mem_of_getElem? (i := 5) rfl))) rfl (hb hby d1_6) k) ?_
  show own_Fin p.tables e below _ (s₁.setTop (mkF m 9 #[.val (.long j1), .second] [(.long (-1 : Int64)), (.long j1), (.long (j1 - (72340172838076673 : Int64)))]))
  refine own_go (fun _ k => XT.lxor X0.here hx rfl (hb hby d1_9) rfl k) ?_
  show own_Fin p.tables e below _ (s₁.setTop (mkF m 10 #[.val (.long j1), .second] [(.long (j1 ^^^ (-1 : Int64))), (.long (j1 - (72340172838076673 : Int64)))]))
  refine own_go (fun _ k => XT.land X0.here hx rfl (hb hby d1_10) rfl k) ?_
  show own_Fin p.tables e below _ (s₁.setTop (mkF m 11 #[.val (.long j1), .second] [(.long ((j1 - (72340172838076673 : Int64)) &&& (j1 ^^^ (-1 : Int64))))]))
  refine own_retJ X0 hx hlk hret (hb hby d1_11) ?_ (by decide) (by decide)
  exact ⟨rfl, N0, e0⟩
theorem d2_0 : decode prog_16_method_5_code 0 = .ok (.lload_n 0, 1) := by decide +kernel
theorem d2_1 : decode prog_16_method_5_code 1 = .ok (.ldc2_w 48, 3) := by decide +kernel
theorem d2_4 : decode prog_16_method_5_code 4 = .ok (.lsub, 1) := by decide +kernel
theorem d2_5 : decode prog_16_method_5_code 5 = .ok (.lload_n 0, 1) := by decide +kernel
theorem d2_6 : decode prog_16_method_5_code 6 = .ok (.ldc2_w 50, 3) := by decide +kernel
theorem d2_9 : decode prog_16_method_5_code 9 = .ok (.lxor, 1) := by decide +kernel
theorem d2_10 : decode prog_16_method_5_code 10 = .ok (.land, 1) := by decide +kernel
theorem d2_11 : decode prog_16_method_5_code 11 = .ok (.lstore_n 2, 1) := by decide +kernel
theorem d2_12 : decode prog_16_method_5_code 12 = .ok (.lload_n 0, 1) := by decide +kernel
theorem d2_13 : decode prog_16_method_5_code 13 = .ok (.ldc2_w 52, 3) := by decide +kernel
theorem d2_16 : decode prog_16_method_5_code 16 = .ok (.land, 1) := by decide +kernel
theorem d2_17 : decode prog_16_method_5_code 17 = .ok (.ldc2_w 54, 3) := by decide +kernel
theorem d2_20 : decode prog_16_method_5_code 20 = .ok (.ladd, 1) := by decide +kernel
theorem d2_21 : decode prog_16_method_5_code 21 = .ok (.lstore 4, 2) := by decide +kernel
theorem d2_23 : decode prog_16_method_5_code 23 = .ok (.lload_n 0, 1) := by decide +kernel
theorem d2_24 : decode prog_16_method_5_code 24 = .ok (.ldc2_w 56, 3) := by decide +kernel
theorem d2_27 : decode prog_16_method_5_code 27 = .ok (.lxor, 1) := by decide +kernel
theorem d2_28 : decode prog_16_method_5_code 28 = .ok (.invokestatic 58, 3) := by decide +kernel
theorem d2_31 : decode prog_16_method_5_code 31 = .ok (.lload_n 0, 1) := by decide +kernel
theorem d2_32 : decode prog_16_method_5_code 32 = .ok (.ldc2_w 61, 3) := by decide +kernel
theorem d2_35 : decode prog_16_method_5_code 35 = .ok (.lxor, 1) := by decide +kernel
theorem d2_36 : decode prog_16_method_5_code 36 = .ok (.invokestatic 58, 3) := by decide +kernel
theorem d2_39 : decode prog_16_method_5_code 39 = .ok (.lor, 1) := by decide +kernel
theorem d2_40 : decode prog_16_method_5_code 40 = .ok (.lload_n 0, 1) := by decide +kernel
theorem d2_41 : decode prog_16_method_5_code 41 = .ok (.ldc2_w 63, 3) := by decide +kernel
theorem d2_44 : decode prog_16_method_5_code 44 = .ok (.lxor, 1) := by decide +kernel
theorem d2_45 : decode prog_16_method_5_code 45 = .ok (.invokestatic 58, 3) := by decide +kernel
theorem d2_48 : decode prog_16_method_5_code 48 = .ok (.lor, 1) := by decide +kernel
theorem d2_49 : decode prog_16_method_5_code 49 = .ok (.lstore 6, 2) := by decide +kernel
theorem d2_51 : decode prog_16_method_5_code 51 = .ok (.lload_n 2, 1) := by decide +kernel
theorem d2_52 : decode prog_16_method_5_code 52 = .ok (.lload 4, 2) := by decide +kernel
theorem d2_54 : decode prog_16_method_5_code 54 = .ok (.lor, 1) := by decide +kernel
theorem d2_55 : decode prog_16_method_5_code 55 = .ok (.lload 6, 2) := by decide +kernel
theorem d2_57 : decode prog_16_method_5_code 57 = .ok (.lor, 1) := by decide +kernel
theorem d2_58 : decode prog_16_method_5_code 58 = .ok (.ldc2_w 65, 3) := by decide +kernel
theorem d2_61 : decode prog_16_method_5_code 61 = .ok (.land, 1) := by decide +kernel
theorem d2_62 : decode prog_16_method_5_code 62 = .ok (.lreturn, 1) := by decide +kernel
theorem ef2 (m : MethodId) (j1 : Int64) : entryFrame m #[(.long j1)] 8 = mkF m 0 #[.val (.long j1), .second, .unset, .unset, .unset, .unset, .unset, .unset] [] := by first | (simp [entryFrame, mkF, argsToLocals, Value.category]; done) | rfl
def f2 (j1 : Int64) : Int64 := (((((j1 - (2314885530818453536 : Int64)) &&& (j1 ^^^ (-1 : Int64))) ||| ((j1 &&& (9187201950435737471 : Int64)) + (72340172838076673 : Int64))) ||| (((f1 (j1 ^^^ (2459565876494606882 : Int64))) ||| (f1 (j1 ^^^ (6655295901103053916 : Int64)))) ||| (f1 (j1 ^^^ (-4412750543122677054 : Int64))))) &&& (-9187201950435737472 : Int64))
set_option maxRecDepth 65536 in
set_option maxHeartbeats 40000000 in
theorem rm2 (l : Launch) (Z : State) (a0 : Array Value) (hw : ∀ d ∈ tables_1, d.before a0 Z = true) (ws : List Jvm.Cond) (j1 : Int64) (h0 : Heap) (n0 : Nat) (Z0 : n0 ≤ h0.size)  :
    own_Met l (⟨"com/example/envelope/envelope/JsonOutput", "stops", "(J)J"⟩ : MethodName) prog_16_method_5_code 8 (some .long) ({ frames := 1, cells := 0, slots := 0, locals := 15 } : Room) ws #[(.long j1)] Z h0 0 0 (own_QP (some (.long (f2 j1))) h0 n0) := by
  refine own_met (plainFor_of_name pn0) ?_
  intro p e s m below meth c s₁ hx hby hml hown hnm hret hlk hZ e0 X0
  have hml : c.maxLocals = 8 := hml
  have N0 := Fr.nil n0
  have K0 := Keep.refl h0 []
  refine own_go (fun _ k => castTop (ef2 m j1) k) ?_
  show own_Fin p.tables e below _ (s₁.setTop (mkF m 0 #[.val (.long j1), .second, .unset, .unset, .unset, .unset, .unset, .unset] []))
  refine own_go (fun _ k => XT.lloadN X0.here hx rfl (hb hby d2_0) rfl k) ?_
  show own_Fin p.tables e below _ (s₁.setTop (mkF m 1 #[.val (.long j1), .second, .unset, .unset, .unset, .unset, .unset, .unset] [(.long j1)]))
  refine own_go (fun _ k => X0.ldc2J hx hown (mvT hZ (hw _ (List.mem_of_getElem? (i := 4) rfl))) rfl (hb hby d2_1) k) ?_
  show own_Fin p.tables e below _ (s₁.setTop (mkF m 4 #[.val (.long j1), .second, .unset, .unset, .unset, .unset, .unset, .unset] [(.long (2314885530818453536 : Int64)), (.long j1)]))
  refine own_go (fun _ k => XT.lsub X0.here hx rfl (hb hby d2_4) rfl k) ?_
  show own_Fin p.tables e below _ (s₁.setTop (mkF m 5 #[.val (.long j1), .second, .unset, .unset, .unset, .unset, .unset, .unset] [(.long (j1 - (2314885530818453536 : Int64)))]))
  refine own_go (fun _ k => XT.lloadN X0.here hx rfl (hb hby d2_5) rfl k) ?_
  show own_Fin p.tables e below _ (s₁.setTop (mkF m 6 #[.val (.long j1), .second, .unset, .unset, .unset, .unset, .unset, .unset] [(.long j1), (.long (j1 - (2314885530818453536 : Int64)))]))
  refine own_go (fun _ k => X0.ldc2J hx hown (mvT hZ (hw _ (List.mem_of_getElem? (i := 5) rfl))) rfl (hb hby d2_6) k) ?_
  show own_Fin p.tables e below _ (s₁.setTop (mkF m 9 #[.val (.long j1), .second, .unset, .unset, .unset, .unset, .unset, .unset] [(.long (-1 : Int64)), (.long j1), (.long (j1 - (2314885530818453536 : Int64)))]))
  refine own_go (fun _ k => XT.lxor X0.here hx rfl (hb hby d2_9) rfl k) ?_
  show own_Fin p.tables e below _ (s₁.setTop (mkF m 10 #[.val (.long j1), .second, .unset, .unset, .unset, .unset, .unset, .unset] [(.long (j1 ^^^ (-1 : Int64))), (.long (j1 - (2314885530818453536 : Int64)))]))
  refine own_go (fun _ k => XT.land X0.here hx rfl (hb hby d2_10) rfl k) ?_
  show own_Fin p.tables e below _ (s₁.setTop (mkF m 11 #[.val (.long j1), .second, .unset, .unset, .unset, .unset, .unset, .unset] [(.long ((j1 - (2314885530818453536 : Int64)) &&& (j1 ^^^ (-1 : Int64))))]))
  refine own_go (fun _ k => XT.lstoreN X0.here hx rfl (hb hby d2_11) rfl (l' := #[.val (.long j1), .second, .val (.long ((j1 - (2314885530818453536 : Int64)) &&& (j1 ^^^ (-1 : Int64)))), .second, .unset, .unset, .unset, .unset]) rfl k) ?_
  show own_Fin p.tables e below _ (s₁.setTop (mkF m 12 #[.val (.long j1), .second, .val (.long ((j1 - (2314885530818453536 : Int64)) &&& (j1 ^^^ (-1 : Int64)))), .second, .unset, .unset, .unset, .unset] []))
  refine own_go (fun _ k => XT.lloadN X0.here hx rfl (hb hby d2_12) rfl k) ?_
  show own_Fin p.tables e below _ (s₁.setTop (mkF m 13 #[.val (.long j1), .second, .val (.long ((j1 - (2314885530818453536 : Int64)) &&& (j1 ^^^ (-1 : Int64)))), .second, .unset, .unset, .unset, .unset] [(.long j1)]))
  refine own_go (fun _ k => X0.ldc2J hx hown (mvT hZ (hw _ (List.mem_of_getElem? (i := 6) rfl))) rfl (hb hby d2_13) k) ?_
  show own_Fin p.tables e below _ (s₁.setTop (mkF m 16 #[.val (.long j1), .second, .val (.long ((j1 - (2314885530818453536 : Int64)) &&& (j1 ^^^ (-1 : Int64)))), .second, .unset, .unset, .unset, .unset] [(.long (9187201950435737471 : Int64)), (.long j1)]))
  refine own_go (fun _ k => XT.land X0.here hx rfl (hb hby d2_16) rfl k) ?_
  show own_Fin p.tables e below _ (s₁.setTop (mkF m 17 #[.val (.long j1), .second, .val (.long ((j1 - (2314885530818453536 : Int64)) &&& (j1 ^^^ (-1 : Int64)))), .second, .unset, .unset, .unset, .unset] [(.long (j1 &&& (9187201950435737471 : Int64)))]))
  refine own_go (fun _ k => X0.ldc2J hx hown (mvT hZ (hw _ (List.mem_of_getElem? (i := 7) rfl))) rfl (hb hby d2_17) k) ?_
  show own_Fin p.tables e below _ (s₁.setTop (mkF m 20 #[.val (.long j1), .second, .val (.long ((j1 - (2314885530818453536 : Int64)) &&& (j1 ^^^ (-1 : Int64)))), .second, .unset, .unset, .unset, .unset] [(.long (72340172838076673 : Int64)), (.long (j1 &&& (9187201950435737471 : Int64)))]))
  refine own_go (fun _ k => XT.ladd X0.here hx rfl (hb hby d2_20) rfl k) ?_
  show own_Fin p.tables e below _ (s₁.setTop (mkF m 21 #[.val (.long j1), .second, .val (.long ((j1 - (2314885530818453536 : Int64)) &&& (j1 ^^^ (-1 : Int64)))), .second, .unset, .unset, .unset, .unset] [(.long ((j1 &&& (9187201950435737471 : Int64)) + (72340172838076673 : Int64)))]))
  refine own_go (fun _ k => XT.lstore X0.here hx rfl (hb hby d2_21) rfl (l' := #[.val (.long j1), .second, .val (.long ((j1 - (2314885530818453536 : Int64)) &&& (j1 ^^^ (-1 : Int64)))), .second, .val (.long ((j1 &&& (9187201950435737471 : Int64)) + (72340172838076673 : Int64))), .second, .unset, .unset]) rfl k) ?_
  show own_Fin p.tables e below _ (s₁.setTop (mkF m 23 #[.val (.long j1), .second, .val (.long ((j1 - (2314885530818453536 : Int64)) &&& (j1 ^^^ (-1 : Int64)))), .second, .val (.long ((j1 &&& (9187201950435737471 : Int64)) + (72340172838076673 : Int64))), .second, .unset, .unset] []))
  refine own_go (fun _ k => XT.lloadN X0.here hx rfl (hb hby d2_23) rfl k) ?_
  show own_Fin p.tables e below _ (s₁.setTop (mkF m 24 #[.val (.long j1), .second, .val (.long ((j1 - (2314885530818453536 : Int64)) &&& (j1 ^^^ (-1 : Int64)))), .second, .val (.long ((j1 &&& (9187201950435737471 : Int64)) + (72340172838076673 : Int64))), .second, .unset, .unset] [(.long j1)]))
  refine own_go (fun _ k => X0.ldc2J hx hown (mvT hZ (hw _ (List.mem_of_getElem? (i := 8) rfl))) rfl (hb hby d2_24) k) ?_
  show own_Fin p.tables e below _ (s₁.setTop (mkF m 27 #[.val (.long j1), .second, .val (.long ((j1 - (2314885530818453536 : Int64)) &&& (j1 ^^^ (-1 : Int64)))), .second, .val (.long ((j1 &&& (9187201950435737471 : Int64)) + (72340172838076673 : Int64))), .second, .unset, .unset] [(.long (2459565876494606882 : Int64)), (.long j1)]))
  refine own_go (fun _ k => XT.lxor X0.here hx rfl (hb hby d2_27) rfl k) ?_
  show own_Fin p.tables e below _ (s₁.setTop (mkF m 28 #[.val (.long j1), .second, .val (.long ((j1 - (2314885530818453536 : Int64)) &&& (j1 ^^^ (-1 : Int64)))), .second, .val (.long ((j1 &&& (9187201950435737471 : Int64)) + (72340172838076673 : Int64))), .second, .unset, .unset] [(.long (j1 ^^^ (2459565876494606882 : Int64)))]))
  obtain ⟨_, T1, L1, X1, ⟨rfl, M1, e1⟩, st1⟩ := own_callS X0 hx hZ hown (hw _ (List.mem_of_getElem? (i := 9) rfl)) (hw _ (List.mem_of_getElem? (i := 10) rfl)) (hw _ (List.mem_of_getElem? (i := 2) rfl)) (hw _ (List.mem_of_getElem? (i := 11) rfl)) (by decide) (W := 0) (rm1 l Z a0 hw [] (j1 ^^^ (2459565876494606882 : Int64)) h0 n0 (Nat.le_trans Z0 K0.1) ) (by decide) (by decide) e0 (g := (mkF m 28 #[.val (.long j1), .second, .val (.long ((j1 - (2314885530818453536 : Int64)) &&& (j1 ^^^ (-1 : Int64)))), .second, .val (.long ((j1 &&& (9187201950435737471 : Int64)) + (72340172838076673 : Int64))), .second, .unset, .unset] [(.long (j1 ^^^ (2459565876494606882 : Int64)))])) rfl (by rw [hml]; rfl) (argsL := [(.long (j1 ^^^ (2459565876494606882 : Int64)))]) (rest := []) rfl (lenOf pd0 rfl) rfl (by show 2 * 0 + _ ≤ _; exact Nat.le_of_eq rfl) (hb hby d2_28) (by decide) (by decide)
  have N1 := Fr.app N0 M1
  refine own_go st1 ?_
  show own_Fin p.tables e below _ (T1.setTop (mkF m 31 #[.val (.long j1), .second, .val (.long ((j1 - (2314885530818453536 : Int64)) &&& (j1 ^^^ (-1 : Int64)))), .second, .val (.long ((j1 &&& (9187201950435737471 : Int64)) + (72340172838076673 : Int64))), .second, .unset, .unset] [(.long (f1 (j1 ^^^ (2459565876494606882 : Int64))))]))
  refine own_go (fun _ k => XT.lloadN X1.here hx rfl (hb hby d2_31) rfl k) ?_
  show own_Fin p.tables e below _ (T1.setTop (mkF m 32 #[.val (.long j1), .second, .val (.long ((j1 - (2314885530818453536 : Int64)) &&& (j1 ^^^ (-1 : Int64)))), .second, .val (.long ((j1 &&& (9187201950435737471 : Int64)) + (72340172838076673 : Int64))), .second, .unset, .unset] [(.long j1), (.long (f1 (j1 ^^^ (2459565876494606882 : Int64))))]))
  refine own_go (fun _ k => X1.ldc2J hx hown (mvT hZ (hw _ (List.mem_of_getElem? (i := 12) rfl))) rfl (hb hby d2_32) k) ?_
  show own_Fin p.tables e below _ (T1.setTop (mkF m 35 #[.val (.long j1), .second, .val (.long ((j1 - (2314885530818453536 : Int64)) &&& (j1 ^^^ (-1 : Int64)))), .second, .val (.long ((j1 &&& (9187201950435737471 : Int64)) + (72340172838076673 : Int64))), .second, .unset, .unset] [(.long (6655295901103053916 : Int64)), (.long j1), (.long (f1 (j1 ^^^ (2459565876494606882 : Int64))))]))
  refine own_go (fun _ k => XT.lxor X1.here hx rfl (hb hby d2_35) rfl k) ?_
  show own_Fin p.tables e below _ (T1.setTop (mkF m 36 #[.val (.long j1), .second, .val (.long ((j1 - (2314885530818453536 : Int64)) &&& (j1 ^^^ (-1 : Int64)))), .second, .val (.long ((j1 &&& (9187201950435737471 : Int64)) + (72340172838076673 : Int64))), .second, .unset, .unset] [(.long (j1 ^^^ (6655295901103053916 : Int64))), (.long (f1 (j1 ^^^ (2459565876494606882 : Int64))))]))
  obtain ⟨_, T2, L2, X2, ⟨rfl, M2, e2⟩, st2⟩ := own_callS X1 hx hZ hown (hw _ (List.mem_of_getElem? (i := 9) rfl)) (hw _ (List.mem_of_getElem? (i := 10) rfl)) (hw _ (List.mem_of_getElem? (i := 2) rfl)) (hw _ (List.mem_of_getElem? (i := 11) rfl)) (by decide) (W := 2) (rm1 l Z a0 hw [] (j1 ^^^ (6655295901103053916 : Int64)) h0 n0 (Nat.le_trans Z0 K0.1) ) (by decide) (by decide) e1 (g := (mkF m 36 #[.val (.long j1), .second, .val (.long ((j1 - (2314885530818453536 : Int64)) &&& (j1 ^^^ (-1 : Int64)))), .second, .val (.long ((j1 &&& (9187201950435737471 : Int64)) + (72340172838076673 : Int64))), .second, .unset, .unset] [(.long (j1 ^^^ (6655295901103053916 : Int64))), (.long (f1 (j1 ^^^ (2459565876494606882 : Int64))))])) rfl (by rw [hml]; rfl) (argsL := [(.long (j1 ^^^ (6655295901103053916 : Int64)))]) (rest := [(.long (f1 (j1 ^^^ (2459565876494606882 : Int64))))]) rfl (lenOf pd0 rfl) rfl (by show 2 * 0 + _ ≤ _; exact Nat.le_of_eq rfl) (hb hby d2_36) (by decide) (by decide)
  have N2 := Fr.app N1 M2
  refine own_go st2 ?_
  show own_Fin p.tables e below _ (T2.setTop (mkF m 39 #[.val (.long j1), .second, .val (.long ((j1 - (2314885530818453536 : Int64)) &&& (j1 ^^^ (-1 : Int64)))), .second, .val (.long ((j1 &&& (9187201950435737471 : Int64)) + (72340172838076673 : Int64))), .second, .unset, .unset] [(.long (f1 (j1 ^^^ (6655295901103053916 : Int64)))), (.long (f1 (j1 ^^^ (2459565876494606882 : Int64))))]))
  refine own_go (fun _ k => XT.lor X2.here hx rfl (hb hby d2_39) rfl k) ?_
  show own_Fin p.tables e below _ (T2.setTop (mkF m 40 #[.val (.long j1), .second, .val (.long ((j1 - (2314885530818453536 : Int64)) &&& (j1 ^^^ (-1 : Int64)))), .second, .val (.long ((j1 &&& (9187201950435737471 : Int64)) + (72340172838076673 : Int64))), .second, .unset, .unset] [(.long ((f1 (j1 ^^^ (2459565876494606882 : Int64))) ||| (f1 (j1 ^^^ (6655295901103053916 : Int64)))))]))
  refine own_go (fun _ k => XT.lloadN X2.here hx rfl (hb hby d2_40) rfl k) ?_
  show own_Fin p.tables e below _ (T2.setTop (mkF m 41 #[.val (.long j1), .second, .val (.long ((j1 - (2314885530818453536 : Int64)) &&& (j1 ^^^ (-1 : Int64)))), .second, .val (.long ((j1 &&& (9187201950435737471 : Int64)) + (72340172838076673 : Int64))), .second, .unset, .unset] [(.long j1), (.long ((f1 (j1 ^^^ (2459565876494606882 : Int64))) ||| (f1 (j1 ^^^ (6655295901103053916 : Int64)))))]))
  refine own_go (fun _ k => X2.ldc2J hx hown (mvT hZ (hw _ (List.mem_of_getElem? (i := 13) rfl))) rfl (hb hby d2_41) k) ?_
  show own_Fin p.tables e below _ (T2.setTop (mkF m 44 #[.val (.long j1), .second, .val (.long ((j1 - (2314885530818453536 : Int64)) &&& (j1 ^^^ (-1 : Int64)))), .second, .val (.long ((j1 &&& (9187201950435737471 : Int64)) + (72340172838076673 : Int64))), .second, .unset, .unset] [(.long (-4412750543122677054 : Int64)), (.long j1), (.long ((f1 (j1 ^^^ (2459565876494606882 : Int64))) ||| (f1 (j1 ^^^ (6655295901103053916 : Int64)))))]))
  refine own_go (fun _ k => XT.lxor X2.here hx rfl (hb hby d2_44) rfl k) ?_
  show own_Fin p.tables e below _ (T2.setTop (mkF m 45 #[.val (.long j1), .second, .val (.long ((j1 - (2314885530818453536 : Int64)) &&& (j1 ^^^ (-1 : Int64)))), .second, .val (.long ((j1 &&& (9187201950435737471 : Int64)) + (72340172838076673 : Int64))), .second, .unset, .unset] [(.long (j1 ^^^ (-4412750543122677054 : Int64))), (.long ((f1 (j1 ^^^ (2459565876494606882 : Int64))) ||| (f1 (j1 ^^^ (6655295901103053916 : Int64)))))]))
  obtain ⟨_, T3, L3, X3, ⟨rfl, M3, e3⟩, st3⟩ := own_callS X2 hx hZ hown (hw _ (List.mem_of_getElem? (i := 9) rfl)) (hw _ (List.mem_of_getElem? (i := 10) rfl)) (hw _ (List.mem_of_getElem? (i := 2) rfl)) (hw _ (List.mem_of_getElem? (i := 11) rfl)) (by decide) (W := 2) (rm1 l Z a0 hw [] (j1 ^^^ (-4412750543122677054 : Int64)) h0 n0 (Nat.le_trans Z0 K0.1) ) (by decide) (by decide) e2 (g := (mkF m 45 #[.val (.long j1), .second, .val (.long ((j1 - (2314885530818453536 : Int64)) &&& (j1 ^^^ (-1 : Int64)))), .second, .val (.long ((j1 &&& (9187201950435737471 : Int64)) + (72340172838076673 : Int64))), .second, .unset, .unset] [(.long (j1 ^^^ (-4412750543122677054 : Int64))), (.long ((f1 (j1 ^^^ (2459565876494606882 : Int64))) ||| (f1 (j1 ^^^ (6655295901103053916 : Int64)))))])) rfl (by rw [hml]; rfl) (argsL := [(.long (j1 ^^^ (-4412750543122677054 : Int64)))]) (rest := [(.long ((f1 (j1 ^^^ (2459565876494606882 : Int64))) ||| (f1 (j1 ^^^ (6655295901103053916 : Int64)))))]) rfl (lenOf pd0 rfl) rfl (by show 2 * 0 + _ ≤ _; exact Nat.le_of_eq rfl) (hb hby d2_45) (by decide) (by decide)
  have N3 := Fr.app N2 M3
  refine own_go st3 ?_
  show own_Fin p.tables e below _ (T3.setTop (mkF m 48 #[.val (.long j1), .second, .val (.long ((j1 - (2314885530818453536 : Int64)) &&& (j1 ^^^ (-1 : Int64)))), .second, .val (.long ((j1 &&& (9187201950435737471 : Int64)) + (72340172838076673 : Int64))), .second, .unset, .unset] [(.long (f1 (j1 ^^^ (-4412750543122677054 : Int64)))), (.long ((f1 (j1 ^^^ (2459565876494606882 : Int64))) ||| (f1 (j1 ^^^ (6655295901103053916 : Int64)))))]))
  refine own_go (fun _ k => XT.lor X3.here hx rfl (hb hby d2_48) rfl k) ?_
  show own_Fin p.tables e below _ (T3.setTop (mkF m 49 #[.val (.long j1), .second, .val (.long ((j1 - (2314885530818453536 : Int64)) &&& (j1 ^^^ (-1 : Int64)))), .second, .val (.long ((j1 &&& (9187201950435737471 : Int64)) + (72340172838076673 : Int64))), .second, .unset, .unset] [(.long (((f1 (j1 ^^^ (2459565876494606882 : Int64))) ||| (f1 (j1 ^^^ (6655295901103053916 : Int64)))) ||| (f1 (j1 ^^^ (-4412750543122677054 : Int64)))))]))
  refine own_go (fun _ k => XT.lstore X3.here hx rfl (hb hby d2_49) rfl (l' := #[.val (.long j1), .second, .val (.long ((j1 - (2314885530818453536 : Int64)) &&& (j1 ^^^ (-1 : Int64)))), .second, .val (.long ((j1 &&& (9187201950435737471 : Int64)) + (72340172838076673 : Int64))), .second, .val (.long (((f1 (j1 ^^^ (2459565876494606882 : Int64))) ||| (f1 (j1 ^^^ (6655295901103053916 : Int64)))) ||| (f1 (j1 ^^^ (-4412750543122677054 : Int64))))), .second]) rfl k) ?_
  show own_Fin p.tables e below _ (T3.setTop (mkF m 51 #[.val (.long j1), .second, .val (.long ((j1 - (2314885530818453536 : Int64)) &&& (j1 ^^^ (-1 : Int64)))), .second, .val (.long ((j1 &&& (9187201950435737471 : Int64)) + (72340172838076673 : Int64))), .second, .val (.long (((f1 (j1 ^^^ (2459565876494606882 : Int64))) ||| (f1 (j1 ^^^ (6655295901103053916 : Int64)))) ||| (f1 (j1 ^^^ (-4412750543122677054 : Int64))))), .second] []))
  refine own_go (fun _ k => XT.lloadN X3.here hx rfl (hb hby d2_51) rfl k) ?_
  show own_Fin p.tables e below _ (T3.setTop (mkF m 52 #[.val (.long j1), .second, .val (.long ((j1 - (2314885530818453536 : Int64)) &&& (j1 ^^^ (-1 : Int64)))), .second, .val (.long ((j1 &&& (9187201950435737471 : Int64)) + (72340172838076673 : Int64))), .second, .val (.long (((f1 (j1 ^^^ (2459565876494606882 : Int64))) ||| (f1 (j1 ^^^ (6655295901103053916 : Int64)))) ||| (f1 (j1 ^^^ (-4412750543122677054 : Int64))))), .second] [(.long ((j1 - (2314885530818453536 : Int64)) &&& (j1 ^^^ (-1 : Int64))))]))
  refine own_go (fun _ k => XT.lload X3.here hx rfl (hb hby d2_52) rfl k) ?_
  show own_Fin p.tables e below _ (T3.setTop (mkF m 54 #[.val (.long j1), .second, .val (.long ((j1 - (2314885530818453536 : Int64)) &&& (j1 ^^^ (-1 : Int64)))), .second, .val (.long ((j1 &&& (9187201950435737471 : Int64)) + (72340172838076673 : Int64))), .second, .val (.long (((f1 (j1 ^^^ (2459565876494606882 : Int64))) ||| (f1 (j1 ^^^ (6655295901103053916 : Int64)))) ||| (f1 (j1 ^^^ (-4412750543122677054 : Int64))))), .second] [(.long ((j1 &&& (9187201950435737471 : Int64)) + (72340172838076673 : Int64))), (.long ((j1 - (2314885530818453536 : Int64)) &&& (j1 ^^^ (-1 : Int64))))]))
  refine own_go (fun _ k => XT.lor X3.here hx rfl (hb hby d2_54) rfl k) ?_
  show own_Fin p.tables e below _ (T3.setTop (mkF m 55 #[.val (.long j1), .second, .val (.long ((j1 - (2314885530818453536 : Int64)) &&& (j1 ^^^ (-1 : Int64)))), .second, .val (.long ((j1 &&& (9187201950435737471 : Int64)) + (72340172838076673 : Int64))), .second, .val (.long (((f1 (j1 ^^^ (2459565876494606882 : Int64))) ||| (f1 (j1 ^^^ (6655295901103053916 : Int64)))) ||| (f1 (j1 ^^^ (-4412750543122677054 : Int64))))), .second] [(.long (((j1 - (2314885530818453536 : Int64)) &&& (j1 ^^^ (-1 : Int64))) ||| ((j1 &&& (9187201950435737471 : Int64)) + (72340172838076673 : Int64))))]))
  refine own_go (fun _ k => XT.lload X3.here hx rfl (hb hby d2_55) rfl k) ?_
  show own_Fin p.tables e below _ (T3.setTop (mkF m 57 #[.val (.long j1), .second, .val (.long ((j1 - (2314885530818453536 : Int64)) &&& (j1 ^^^ (-1 : Int64)))), .second, .val (.long ((j1 &&& (9187201950435737471 : Int64)) + (72340172838076673 : Int64))), .second, .val (.long (((f1 (j1 ^^^ (2459565876494606882 : Int64))) ||| (f1 (j1 ^^^ (6655295901103053916 : Int64)))) ||| (f1 (j1 ^^^ (-4412750543122677054 : Int64))))), .second] [(.long (((f1 (j1 ^^^ (2459565876494606882 : Int64))) ||| (f1 (j1 ^^^ (6655295901103053916 : Int64)))) ||| (f1 (j1 ^^^ (-4412750543122677054 : Int64))))), (.long (((j1 - (2314885530818453536 : Int64)) &&& (j1 ^^^ (-1 : Int64))) ||| ((j1 &&& (9187201950435737471 : Int64)) + (72340172838076673 : Int64))))]))
  refine own_go (fun _ k => XT.lor X3.here hx rfl (hb hby d2_57) rfl k) ?_
  show own_Fin p.tables e below _ (T3.setTop (mkF m 58 #[.val (.long j1), .second, .val (.long ((j1 - (2314885530818453536 : Int64)) &&& (j1 ^^^ (-1 : Int64)))), .second, .val (.long ((j1 &&& (9187201950435737471 : Int64)) + (72340172838076673 : Int64))), .second, .val (.long (((f1 (j1 ^^^ (2459565876494606882 : Int64))) ||| (f1 (j1 ^^^ (6655295901103053916 : Int64)))) ||| (f1 (j1 ^^^ (-4412750543122677054 : Int64))))), .second] [(.long ((((j1 - (2314885530818453536 : Int64)) &&& (j1 ^^^ (-1 : Int64))) ||| ((j1 &&& (9187201950435737471 : Int64)) + (72340172838076673 : Int64))) ||| (((f1 (j1 ^^^ (2459565876494606882 : Int64))) ||| (f1 (j1 ^^^ (6655295901103053916 : Int64)))) ||| (f1 (j1 ^^^ (-4412750543122677054 : Int64))))))]))
  refine own_go (fun _ k => X3.ldc2J hx hown (mvT hZ (hw _ (List.mem_of_getElem? (i := 14) rfl))) rfl (hb hby d2_58) k) ?_
  show own_Fin p.tables e below _ (T3.setTop (mkF m 61 #[.val (.long j1), .second, .val (.long ((j1 - (2314885530818453536 : Int64)) &&& (j1 ^^^ (-1 : Int64)))), .second, .val (.long ((j1 &&& (9187201950435737471 : Int64)) + (72340172838076673 : Int64))), .second, .val (.long (((f1 (j1 ^^^ (2459565876494606882 : Int64))) ||| (f1 (j1 ^^^ (6655295901103053916 : Int64)))) ||| (f1 (j1 ^^^ (-4412750543122677054 : Int64))))), .second] [(.long (-9187201950435737472 : Int64)), (.long ((((j1 - (2314885530818453536 : Int64)) &&& (j1 ^^^ (-1 : Int64))) ||| ((j1 &&& (9187201950435737471 : Int64)) + (72340172838076673 : Int64))) ||| (((f1 (j1 ^^^ (2459565876494606882 : Int64))) ||| (f1 (j1 ^^^ (6655295901103053916 : Int64)))) ||| (f1 (j1 ^^^ (-4412750543122677054 : Int64))))))]))
  refine own_go (fun _ k => XT.land X3.here hx rfl (hb hby d2_61) rfl k) ?_
  show own_Fin p.tables e below _ (T3.setTop (mkF m 62 #[.val (.long j1), .second, .val (.long ((j1 - (2314885530818453536 : Int64)) &&& (j1 ^^^ (-1 : Int64)))), .second, .val (.long ((j1 &&& (9187201950435737471 : Int64)) + (72340172838076673 : Int64))), .second, .val (.long (((f1 (j1 ^^^ (2459565876494606882 : Int64))) ||| (f1 (j1 ^^^ (6655295901103053916 : Int64)))) ||| (f1 (j1 ^^^ (-4412750543122677054 : Int64))))), .second] [(.long (((((j1 - (2314885530818453536 : Int64)) &&& (j1 ^^^ (-1 : Int64))) ||| ((j1 &&& (9187201950435737471 : Int64)) + (72340172838076673 : Int64))) ||| (((f1 (j1 ^^^ (2459565876494606882 : Int64))) ||| (f1 (j1 ^^^ (6655295901103053916 : Int64)))) ||| (f1 (j1 ^^^ (-4412750543122677054 : Int64))))) &&& (-9187201950435737472 : Int64)))]))
  refine own_retJ X3 hx hlk hret (hb hby d2_62) ?_ (by decide) (by decide)
  exact ⟨rfl, N3, e3⟩
theorem d3_0 : decode method_2_code 0 = .ok (.iload_n 0, 1) := by decide +kernel
theorem d3_1 : decode method_2_code 1 = .ok (.bipush 32, 2) := by decide +kernel
theorem d3_3 : decode method_2_code 3 = .ok (.if_icmp .lt 35, 3) := by decide +kernel
theorem d3_6 : decode method_2_code 6 = .ok (.iload_n 0, 1) := by decide +kernel
theorem d3_7 : decode method_2_code 7 = .ok (.bipush 34, 2) := by decide +kernel
theorem d3_9 : decode method_2_code 9 = .ok (.if_icmp .eq 29, 3) := by decide +kernel
theorem d3_12 : decode method_2_code 12 = .ok (.iload_n 0, 1) := by decide +kernel
theorem d3_13 : decode method_2_code 13 = .ok (.bipush 92, 2) := by decide +kernel
theorem d3_15 : decode method_2_code 15 = .ok (.if_icmp .eq 23, 3) := by decide +kernel
theorem d3_18 : decode method_2_code 18 = .ok (.iload_n 0, 1) := by decide +kernel
theorem d3_19 : decode method_2_code 19 = .ok (.bipush 127, 2) := by decide +kernel
theorem d3_21 : decode method_2_code 21 = .ok (.if_icmp .eq 17, 3) := by decide +kernel
theorem d3_24 : decode method_2_code 24 = .ok (.iload_n 0, 1) := by decide +kernel
theorem d3_25 : decode method_2_code 25 = .ok (.sipush 194, 3) := by decide +kernel
theorem d3_28 : decode method_2_code 28 = .ok (.if_icmp .eq 10, 3) := by decide +kernel
theorem d3_31 : decode method_2_code 31 = .ok (.iload_n 0, 1) := by decide +kernel
theorem d3_32 : decode method_2_code 32 = .ok (.sipush 255, 3) := by decide +kernel
theorem d3_35 : decode method_2_code 35 = .ok (.if_icmp .ne 7, 3) := by decide +kernel
theorem d3_38 : decode method_2_code 38 = .ok (.iconst 1, 1) := by decide +kernel
theorem d3_39 : decode method_2_code 39 = .ok (.goto 4, 3) := by decide +kernel
theorem d3_42 : decode method_2_code 42 = .ok (.iconst 0, 1) := by decide +kernel
theorem d3_43 : decode method_2_code 43 = .ok (.ireturn, 1) := by decide +kernel
theorem pn1 : plainName "com/example/envelope/envelope/JsonOutputStopsPinLaw" = true := by first | (simp [plainName, overriddenIn]; done) | decide +kernel
theorem pd1 : parseMethodDescriptor "(I)Z" = some ⟨[.int], some .boolean⟩ := by decide +kernel
theorem ef3 (m : MethodId) (i1 : Int32) : entryFrame m #[(.int i1)] 1 = mkF m 0 #[.val (.int i1)] [] := by first | (simp [entryFrame, mkF, argsToLocals, Value.category]; done) | rfl
def f3 (i1 : Int32) : Int32 := (if i1 < (32 : Int32) then (1 : Int32) else (if i1 = (34 : Int32) then (1 : Int32) else (if i1 = (92 : Int32) then (1 : Int32) else (if i1 = (127 : Int32) then (1 : Int32) else (if i1 = (194 : Int32) then (1 : Int32) else (if i1 = (255 : Int32) then (1 : Int32) else (0 : Int32)))))))
set_option maxRecDepth 65536 in
set_option maxHeartbeats 40000000 in
theorem rm3 (l : Launch) (Z : State) (a0 : Array Value) (hw : ∀ d ∈ tables_1, d.before a0 Z = true) (ws : List Jvm.Cond) (i1 : Int32) (h0 : Heap) (n0 : Nat) (Z0 : n0 ≤ h0.size)  :
    own_Met l (⟨"com/example/envelope/envelope/JsonOutputStopsPinLaw", "isStop", "(I)Z"⟩ : MethodName) method_2_code 1 (some .boolean) ({ frames := 0, cells := 0, slots := 0, locals := 0 } : Room) ws #[(.int i1)] Z h0 0 0 (own_QP (some (.int (f3 i1))) h0 n0) := by
  refine own_met (plainFor_of_name pn1) ?_
  intro p e s m below meth c s₁ hx hby hml hown hnm hret hlk hZ e0 X0
  have hml : c.maxLocals = 1 := hml
  have N0 := Fr.nil n0
  have K0 := Keep.refl h0 []
  refine own_go (fun _ k => castTop (ef3 m i1) k) ?_
  show own_Fin p.tables e below _ (s₁.setTop (mkF m 0 #[.val (.int i1)] []))
  refine own_go (fun _ k => XS.iloadN X0.here hx rfl (hb hby d3_0) rfl k) ?_
  show own_Fin p.tables e below _ (s₁.setTop (mkF m 1 #[.val (.int i1)] [(.int i1)]))
  refine own_go (fun _ k => XT.bipushV X0.here hx rfl (32 : Int32) (hb hby d3_1) (by decide) k) ?_
  show own_Fin p.tables e below _ (s₁.setTop (mkF m 3 #[.val (.int i1)] [(.int (32 : Int32)), (.int i1)]))
  by_cases hc1 : i1 < (32 : Int32)
  · refine own_go (fun _ k => XS.icmpYes X0.here hx rfl (pc0 := 3) (pc' := 38) rfl (hb hby d3_3) rfl (XT.ii_lt_t hc1) (by decide) (by decide) k) ?_
    show own_Fin p.tables e below _ (s₁.setTop (mkF m 38 #[.val (.int i1)] []))
    refine own_go (fun _ k => XT.iconstV X0.here hx rfl (1 : Int32) (hb hby d3_38) (by decide) k) ?_
    show own_Fin p.tables e below _ (s₁.setTop (mkF m 39 #[.val (.int i1)] [(.int (1 : Int32))]))
    refine own_go (fun _ k => XS.goto X0.here hx rfl (pc0 := 39) (pc' := 43) rfl (hb hby d3_39) (by decide) (by decide) k) ?_
    show own_Fin p.tables e below _ (s₁.setTop (mkF m 43 #[.val (.int i1)] [(.int (1 : Int32))]))
    refine own_retN X0 hx hlk (t := .boolean) hret (by simp) (hb hby d3_43) ?_ (by decide) (by decide)
    exact ⟨by rw [show f3 i1 = (1 : Int32) from by simp only [f3, if_pos hc1]] <;> rfl, N0, e0⟩
  · refine own_go (fun _ k => XS.icmpNo X0.here hx rfl (hb hby d3_3) rfl (XT.ii_lt_f hc1) k) ?_
    show own_Fin p.tables e below _ (s₁.setTop (mkF m 6 #[.val (.int i1)] []))
    refine own_go (fun _ k => XS.iloadN X0.here hx rfl (hb hby d3_6) rfl k) ?_
    show own_Fin p.tables e below _ (s₁.setTop (mkF m 7 #[.val (.int i1)] [(.int i1)]))
    refine own_go (fun _ k => XT.bipushV X0.here hx rfl (34 : Int32) (hb hby d3_7) (by decide) k) ?_
    show own_Fin p.tables e below _ (s₁.setTop (mkF m 9 #[.val (.int i1)] [(.int (34 : Int32)), (.int i1)]))
    by_cases hc2 : i1 = (34 : Int32)
    · refine own_go (fun _ k => XS.icmpYes X0.here hx rfl (pc0 := 9) (pc' := 38) rfl (hb hby d3_9) rfl (XT.ii_eq_t hc2) (by decide) (by decide) k) ?_
      show own_Fin p.tables e below _ (s₁.setTop (mkF m 38 #[.val (.int i1)] []))
      refine own_go (fun _ k => XT.iconstV X0.here hx rfl (1 : Int32) (hb hby d3_38) (by decide) k) ?_
      show own_Fin p.tables e below _ (s₁.setTop (mkF m 39 #[.val (.int i1)] [(.int (1 : Int32))]))
      refine own_go (fun _ k => XS.goto X0.here hx rfl (pc0 := 39) (pc' := 43) rfl (hb hby d3_39) (by decide) (by decide) k) ?_
      show own_Fin p.tables e below _ (s₁.setTop (mkF m 43 #[.val (.int i1)] [(.int (1 : Int32))]))
      refine own_retN X0 hx hlk (t := .boolean) hret (by simp) (hb hby d3_43) ?_ (by decide) (by decide)
      exact ⟨by rw [show f3 i1 = (1 : Int32) from by simp only [f3, if_neg hc1, if_pos hc2]] <;> rfl, N0, e0⟩
    · refine own_go (fun _ k => XS.icmpNo X0.here hx rfl (hb hby d3_9) rfl (XT.ii_eq_f hc2) k) ?_
      show own_Fin p.tables e below _ (s₁.setTop (mkF m 12 #[.val (.int i1)] []))
      refine own_go (fun _ k => XS.iloadN X0.here hx rfl (hb hby d3_12) rfl k) ?_
      show own_Fin p.tables e below _ (s₁.setTop (mkF m 13 #[.val (.int i1)] [(.int i1)]))
      refine own_go (fun _ k => XT.bipushV X0.here hx rfl (92 : Int32) (hb hby d3_13) (by decide) k) ?_
      show own_Fin p.tables e below _ (s₁.setTop (mkF m 15 #[.val (.int i1)] [(.int (92 : Int32)), (.int i1)]))
      by_cases hc3 : i1 = (92 : Int32)
      · refine own_go (fun _ k => XS.icmpYes X0.here hx rfl (pc0 := 15) (pc' := 38) rfl (hb hby d3_15) rfl (XT.ii_eq_t hc3) (by decide) (by decide) k) ?_
        show own_Fin p.tables e below _ (s₁.setTop (mkF m 38 #[.val (.int i1)] []))
        refine own_go (fun _ k => XT.iconstV X0.here hx rfl (1 : Int32) (hb hby d3_38) (by decide) k) ?_
        show own_Fin p.tables e below _ (s₁.setTop (mkF m 39 #[.val (.int i1)] [(.int (1 : Int32))]))
        refine own_go (fun _ k => XS.goto X0.here hx rfl (pc0 := 39) (pc' := 43) rfl (hb hby d3_39) (by decide) (by decide) k) ?_
        show own_Fin p.tables e below _ (s₁.setTop (mkF m 43 #[.val (.int i1)] [(.int (1 : Int32))]))
        refine own_retN X0 hx hlk (t := .boolean) hret (by simp) (hb hby d3_43) ?_ (by decide) (by decide)
        exact ⟨by rw [show f3 i1 = (1 : Int32) from by simp only [f3, if_neg hc1, if_neg hc2, if_pos hc3]] <;> rfl, N0, e0⟩
      · refine own_go (fun _ k => XS.icmpNo X0.here hx rfl (hb hby d3_15) rfl (XT.ii_eq_f hc3) k) ?_
        show own_Fin p.tables e below _ (s₁.setTop (mkF m 18 #[.val (.int i1)] []))
        refine own_go (fun _ k => XS.iloadN X0.here hx rfl (hb hby d3_18) rfl k) ?_
        show own_Fin p.tables e below _ (s₁.setTop (mkF m 19 #[.val (.int i1)] [(.int i1)]))
        refine own_go (fun _ k => XT.bipushV X0.here hx rfl (127 : Int32) (hb hby d3_19) (by decide) k) ?_
        show own_Fin p.tables e below _ (s₁.setTop (mkF m 21 #[.val (.int i1)] [(.int (127 : Int32)), (.int i1)]))
        by_cases hc4 : i1 = (127 : Int32)
        · refine own_go (fun _ k => XS.icmpYes X0.here hx rfl (pc0 := 21) (pc' := 38) rfl (hb hby d3_21) rfl (XT.ii_eq_t hc4) (by decide) (by decide) k) ?_
          show own_Fin p.tables e below _ (s₁.setTop (mkF m 38 #[.val (.int i1)] []))
          refine own_go (fun _ k => XT.iconstV X0.here hx rfl (1 : Int32) (hb hby d3_38) (by decide) k) ?_
          show own_Fin p.tables e below _ (s₁.setTop (mkF m 39 #[.val (.int i1)] [(.int (1 : Int32))]))
          refine own_go (fun _ k => XS.goto X0.here hx rfl (pc0 := 39) (pc' := 43) rfl (hb hby d3_39) (by decide) (by decide) k) ?_
          show own_Fin p.tables e below _ (s₁.setTop (mkF m 43 #[.val (.int i1)] [(.int (1 : Int32))]))
          refine own_retN X0 hx hlk (t := .boolean) hret (by simp) (hb hby d3_43) ?_ (by decide) (by decide)
          exact ⟨by rw [show f3 i1 = (1 : Int32) from by simp only [f3, if_neg hc1, if_neg hc2, if_neg hc3, if_pos hc4]] <;> rfl, N0, e0⟩
        · refine own_go (fun _ k => XS.icmpNo X0.here hx rfl (hb hby d3_21) rfl (XT.ii_eq_f hc4) k) ?_
          show own_Fin p.tables e below _ (s₁.setTop (mkF m 24 #[.val (.int i1)] []))
          refine own_go (fun _ k => XS.iloadN X0.here hx rfl (hb hby d3_24) rfl k) ?_
          show own_Fin p.tables e below _ (s₁.setTop (mkF m 25 #[.val (.int i1)] [(.int i1)]))
          refine own_go (fun _ k => XT.sipushV X0.here hx rfl (194 : Int32) (hb hby d3_25) (by decide) k) ?_
          show own_Fin p.tables e below _ (s₁.setTop (mkF m 28 #[.val (.int i1)] [(.int (194 : Int32)), (.int i1)]))
          by_cases hc5 : i1 = (194 : Int32)
          · refine own_go (fun _ k => XS.icmpYes X0.here hx rfl (pc0 := 28) (pc' := 38) rfl (hb hby d3_28) rfl (XT.ii_eq_t hc5) (by decide) (by decide) k) ?_
            show own_Fin p.tables e below _ (s₁.setTop (mkF m 38 #[.val (.int i1)] []))
            refine own_go (fun _ k => XT.iconstV X0.here hx rfl (1 : Int32) (hb hby d3_38) (by decide) k) ?_
            show own_Fin p.tables e below _ (s₁.setTop (mkF m 39 #[.val (.int i1)] [(.int (1 : Int32))]))
            refine own_go (fun _ k => XS.goto X0.here hx rfl (pc0 := 39) (pc' := 43) rfl (hb hby d3_39) (by decide) (by decide) k) ?_
            show own_Fin p.tables e below _ (s₁.setTop (mkF m 43 #[.val (.int i1)] [(.int (1 : Int32))]))
            refine own_retN X0 hx hlk (t := .boolean) hret (by simp) (hb hby d3_43) ?_ (by decide) (by decide)
            exact ⟨by rw [show f3 i1 = (1 : Int32) from by simp only [f3, if_neg hc1, if_neg hc2, if_neg hc3, if_neg hc4, if_pos hc5]] <;> rfl, N0, e0⟩
          · refine own_go (fun _ k => XS.icmpNo X0.here hx rfl (hb hby d3_28) rfl (XT.ii_eq_f hc5) k) ?_
            show own_Fin p.tables e below _ (s₁.setTop (mkF m 31 #[.val (.int i1)] []))
            refine own_go (fun _ k => XS.iloadN X0.here hx rfl (hb hby d3_31) rfl k) ?_
            show own_Fin p.tables e below _ (s₁.setTop (mkF m 32 #[.val (.int i1)] [(.int i1)]))
            refine own_go (fun _ k => XT.sipushV X0.here hx rfl (255 : Int32) (hb hby d3_32) (by decide) k) ?_
            show own_Fin p.tables e below _ (s₁.setTop (mkF m 35 #[.val (.int i1)] [(.int (255 : Int32)), (.int i1)]))
            by_cases hc6 : i1 = (255 : Int32)
            · refine own_go (fun _ k => XS.icmpNo X0.here hx rfl (hb hby d3_35) rfl (XT.ii_ne_f hc6) k) ?_
              show own_Fin p.tables e below _ (s₁.setTop (mkF m 38 #[.val (.int i1)] []))
              refine own_go (fun _ k => XT.iconstV X0.here hx rfl (1 : Int32) (hb hby d3_38) (by decide) k) ?_
              show own_Fin p.tables e below _ (s₁.setTop (mkF m 39 #[.val (.int i1)] [(.int (1 : Int32))]))
              refine own_go (fun _ k => XS.goto X0.here hx rfl (pc0 := 39) (pc' := 43) rfl (hb hby d3_39) (by decide) (by decide) k) ?_
              show own_Fin p.tables e below _ (s₁.setTop (mkF m 43 #[.val (.int i1)] [(.int (1 : Int32))]))
              refine own_retN X0 hx hlk (t := .boolean) hret (by simp) (hb hby d3_43) ?_ (by decide) (by decide)
              exact ⟨by rw [show f3 i1 = (1 : Int32) from by simp only [f3, if_neg hc1, if_neg hc2, if_neg hc3, if_neg hc4, if_neg hc5, if_pos hc6]] <;> rfl, N0, e0⟩
            · refine own_go (fun _ k => XS.icmpYes X0.here hx rfl (pc0 := 35) (pc' := 42) rfl (hb hby d3_35) rfl (XT.ii_ne_t hc6) (by decide) (by decide) k) ?_
              show own_Fin p.tables e below _ (s₁.setTop (mkF m 42 #[.val (.int i1)] []))
              refine own_go (fun _ k => XT.iconstV X0.here hx rfl (0 : Int32) (hb hby d3_42) (by decide) k) ?_
              show own_Fin p.tables e below _ (s₁.setTop (mkF m 43 #[.val (.int i1)] [(.int (0 : Int32))]))
              refine own_retN X0 hx hlk (t := .boolean) hret (by simp) (hb hby d3_43) ?_ (by decide) (by decide)
              exact ⟨by rw [show f3 i1 = (0 : Int32) from by simp only [f3, if_neg hc1, if_neg hc2, if_neg hc3, if_neg hc4, if_neg hc5, if_neg hc6]] <;> rfl, N0, e0⟩
theorem d4_0 : decode method_3_code 0 = .ok (.iload 5, 2) := by decide +kernel
theorem d4_2 : decode method_3_code 2 = .ok (.iconst 2, 1) := by decide +kernel
theorem d4_3 : decode method_3_code 3 = .ok (.if_icmp .ne 5, 3) := by decide +kernel
theorem d4_6 : decode method_3_code 6 = .ok (.iconst 2, 1) := by decide +kernel
theorem d4_7 : decode method_3_code 7 = .ok (.ireturn, 1) := by decide +kernel
theorem d4_8 : decode method_3_code 8 = .ok (.lload_n 0, 1) := by decide +kernel
theorem d4_9 : decode method_3_code 9 = .ok (.bipush 8, 2) := by decide +kernel
theorem d4_11 : decode method_3_code 11 = .ok (.iload 4, 2) := by decide +kernel
theorem d4_13 : decode method_3_code 13 = .ok (.imul, 1) := by decide +kernel
theorem d4_14 : decode method_3_code 14 = .ok (.lushr, 1) := by decide +kernel
theorem d4_15 : decode method_3_code 15 = .ok (.l2i, 1) := by decide +kernel
theorem d4_16 : decode method_3_code 16 = .ok (.sipush 255, 3) := by decide +kernel
theorem d4_19 : decode method_3_code 19 = .ok (.iand, 1) := by decide +kernel
theorem d4_20 : decode method_3_code 20 = .ok (.istore 6, 2) := by decide +kernel
theorem d4_22 : decode method_3_code 22 = .ok (.iload 6, 2) := by decide +kernel
theorem d4_24 : decode method_3_code 24 = .ok (.invokestatic 7, 3) := by decide +kernel
theorem d4_27 : decode method_3_code 27 = .ok (.istore 7, 2) := by decide +kernel
theorem d4_29 : decode method_3_code 29 = .ok (.lload_n 2, 1) := by decide +kernel
theorem d4_30 : decode method_3_code 30 = .ok (.bipush 8, 2) := by decide +kernel
theorem d4_32 : decode method_3_code 32 = .ok (.iload 4, 2) := by decide +kernel
theorem d4_34 : decode method_3_code 34 = .ok (.imul, 1) := by decide +kernel
theorem d4_35 : decode method_3_code 35 = .ok (.bipush 7, 2) := by decide +kernel
theorem d4_37 : decode method_3_code 37 = .ok (.iadd, 1) := by decide +kernel
theorem d4_38 : decode method_3_code 38 = .ok (.lushr, 1) := by decide +kernel
theorem d4_39 : decode method_3_code 39 = .ok (.lconst 1, 1) := by decide +kernel
theorem d4_40 : decode method_3_code 40 = .ok (.land, 1) := by decide +kernel
theorem d4_41 : decode method_3_code 41 = .ok (.lconst 0, 1) := by decide +kernel
theorem d4_42 : decode method_3_code 42 = .ok (.lcmp, 1) := by decide +kernel
theorem d4_43 : decode method_3_code 43 = .ok (.ifCond .eq 7, 3) := by decide +kernel
theorem d4_46 : decode method_3_code 46 = .ok (.iconst 1, 1) := by decide +kernel
theorem d4_47 : decode method_3_code 47 = .ok (.goto 4, 3) := by decide +kernel
theorem d4_50 : decode method_3_code 50 = .ok (.iconst 0, 1) := by decide +kernel
theorem d4_51 : decode method_3_code 51 = .ok (.istore 8, 2) := by decide +kernel
theorem d4_53 : decode method_3_code 53 = .ok (.iload 7, 2) := by decide +kernel
theorem d4_55 : decode method_3_code 55 = .ok (.ifCond .eq 10, 3) := by decide +kernel
theorem d4_58 : decode method_3_code 58 = .ok (.iload 8, 2) := by decide +kernel
theorem d4_60 : decode method_3_code 60 = .ok (.ifCond .ne 5, 3) := by decide +kernel
theorem d4_63 : decode method_3_code 63 = .ok (.iconst 2, 1) := by decide +kernel
theorem d4_64 : decode method_3_code 64 = .ok (.ireturn, 1) := by decide +kernel
theorem d4_65 : decode method_3_code 65 = .ok (.iload 5, 2) := by decide +kernel
theorem d4_67 : decode method_3_code 67 = .ok (.ifCond .ne 12, 3) := by decide +kernel
theorem d4_70 : decode method_3_code 70 = .ok (.iload 8, 2) := by decide +kernel
theorem d4_72 : decode method_3_code 72 = .ok (.iload 7, 2) := by decide +kernel
theorem d4_74 : decode method_3_code 74 = .ok (.if_icmp .eq 5, 3) := by decide +kernel
theorem d4_77 : decode method_3_code 77 = .ok (.iconst 2, 1) := by decide +kernel
theorem d4_78 : decode method_3_code 78 = .ok (.ireturn, 1) := by decide +kernel
theorem d4_79 : decode method_3_code 79 = .ok (.iload 7, 2) := by decide +kernel
theorem d4_81 : decode method_3_code 81 = .ok (.ifCond .eq 7, 3) := by decide +kernel
theorem d4_84 : decode method_3_code 84 = .ok (.iconst 1, 1) := by decide +kernel
theorem d4_85 : decode method_3_code 85 = .ok (.goto 5, 3) := by decide +kernel
theorem d4_88 : decode method_3_code 88 = .ok (.iload 5, 2) := by decide +kernel
theorem d4_90 : decode method_3_code 90 = .ok (.ireturn, 1) := by decide +kernel
theorem pd2 : parseMethodDescriptor "(JJII)I" = some ⟨[.long, .long, .int, .int], some .int⟩ := by decide +kernel
theorem ef4 (m : MethodId) (j1 : Int64) (j2 : Int64) (i1 : Int32) (i2 : Int32) : entryFrame m #[(.long j1), (.long j2), (.int i1), (.int i2)] 9 = mkF m 0 #[.val (.long j1), .second, .val (.long j2), .second, .val (.int i1), .val (.int i2), .unset, .unset, .unset] [] := by first | (simp [entryFrame, mkF, argsToLocals, Value.category]; done) | rfl
def own_bit (j1 : Int64) (j2 : Int64) (i1 : Int32) (i2 : Int32) : Int32 := (if ((XT.ushrL j2 (((8 : Int32) * i1) + (7 : Int32))) &&& (1 : Int64)) = (0 : Int64) then (0 : Int32) else (1 : Int32))
def f4 (j1 : Int64) (j2 : Int64) (i1 : Int32) (i2 : Int32) : Int32 := (if i2 = (2 : Int32) then (2 : Int32) else (if (f3 (((XT.ushrL j1 ((8 : Int32) * i1)).toInt32) &&& (255 : Int32))) = (0 : Int32) then (if i2 = (0 : Int32) then (if (own_bit j1 j2 i1 i2) = (f3 (((XT.ushrL j1 ((8 : Int32) * i1)).toInt32) &&& (255 : Int32))) then i2 else (2 : Int32)) else i2) else (if (own_bit j1 j2 i1 i2) = (0 : Int32) then (2 : Int32) else (if i2 = (0 : Int32) then (if (own_bit j1 j2 i1 i2) = (f3 (((XT.ushrL j1 ((8 : Int32) * i1)).toInt32) &&& (255 : Int32))) then (1 : Int32) else (2 : Int32)) else (1 : Int32)))))
set_option maxRecDepth 65536 in
set_option maxHeartbeats 40000000 in
theorem rm4 (l : Launch) (Z : State) (a0 : Array Value) (hw : ∀ d ∈ tables_1, d.before a0 Z = true) (ws : List Jvm.Cond) (j1 : Int64) (j2 : Int64) (i1 : Int32) (i2 : Int32) (h0 : Heap) (n0 : Nat) (Z0 : n0 ≤ h0.size)  :
    own_Met l (⟨"com/example/envelope/envelope/JsonOutputStopsPinLaw", "step", "(JJII)I"⟩ : MethodName) method_3_code 9 (some .int) ({ frames := 1, cells := 0, slots := 0, locals := 12 } : Room) ws #[(.long j1), (.long j2), (.int i1), (.int i2)] Z h0 0 0 (own_QP (some (.int (f4 j1 j2 i1 i2))) h0 n0) := by
  refine own_met (plainFor_of_name pn1) ?_
  intro p e s m below meth c s₁ hx hby hml hown hnm hret hlk hZ e0 X0
  have hml : c.maxLocals = 9 := hml
  have N0 := Fr.nil n0
  have K0 := Keep.refl h0 []
  refine own_go (fun _ k => castTop (ef4 m j1 j2 i1 i2) k) ?_
  show own_Fin p.tables e below _ (s₁.setTop (mkF m 0 #[.val (.long j1), .second, .val (.long j2), .second, .val (.int i1), .val (.int i2), .unset, .unset, .unset] []))
  refine own_go (fun _ k => XS.iload X0.here hx rfl (hb hby d4_0) rfl k) ?_
  show own_Fin p.tables e below _ (s₁.setTop (mkF m 2 #[.val (.long j1), .second, .val (.long j2), .second, .val (.int i1), .val (.int i2), .unset, .unset, .unset] [(.int i2)]))
  refine own_go (fun _ k => XT.iconstV X0.here hx rfl (2 : Int32) (hb hby d4_2) (by decide) k) ?_
  show own_Fin p.tables e below _ (s₁.setTop (mkF m 3 #[.val (.long j1), .second, .val (.long j2), .second, .val (.int i1), .val (.int i2), .unset, .unset, .unset] [(.int (2 : Int32)), (.int i2)]))
  by_cases hc1 : i2 = (2 : Int32)
  · refine own_go (fun _ k => XS.icmpNo X0.here hx rfl (hb hby d4_3) rfl (XT.ii_ne_f hc1) k) ?_
    show own_Fin p.tables e below _ (s₁.setTop (mkF m 6 #[.val (.long j1), .second, .val (.long j2), .second, .val (.int i1), .val (.int i2), .unset, .unset, .unset] []))
    refine own_go (fun _ k => XT.iconstV X0.here hx rfl (2 : Int32) (hb hby d4_6) (by decide) k) ?_
    show own_Fin p.tables e below _ (s₁.setTop (mkF m 7 #[.val (.long j1), .second, .val (.long j2), .second, .val (.int i1), .val (.int i2), .unset, .unset, .unset] [(.int (2 : Int32))]))
    refine own_retI X0 hx hlk hret (hb hby d4_7) ?_ (by decide) (by decide)
    exact ⟨by rw [show f4 j1 j2 i1 i2 = (2 : Int32) from by simp only [f4, if_pos hc1]] <;> rfl, N0, e0⟩
  · refine own_go (fun _ k => XS.icmpYes X0.here hx rfl (pc0 := 3) (pc' := 8) rfl (hb hby d4_3) rfl (XT.ii_ne_t hc1) (by decide) (by decide) k) ?_
    show own_Fin p.tables e below _ (s₁.setTop (mkF m 8 #[.val (.long j1), .second, .val (.long j2), .second, .val (.int i1), .val (.int i2), .unset, .unset, .unset] []))
    refine own_go (fun _ k => XT.lloadN X0.here hx rfl (hb hby d4_8) rfl k) ?_
    show own_Fin p.tables e below _ (s₁.setTop (mkF m 9 #[.val (.long j1), .second, .val (.long j2), .second, .val (.int i1), .val (.int i2), .unset, .unset, .unset] [(.long j1)]))
    refine own_go (fun _ k => XT.bipushV X0.here hx rfl (8 : Int32) (hb hby d4_9) (by decide) k) ?_
    show own_Fin p.tables e below _ (s₁.setTop (mkF m 11 #[.val (.long j1), .second, .val (.long j2), .second, .val (.int i1), .val (.int i2), .unset, .unset, .unset] [(.int (8 : Int32)), (.long j1)]))
    refine own_go (fun _ k => XS.iload X0.here hx rfl (hb hby d4_11) rfl k) ?_
    show own_Fin p.tables e below _ (s₁.setTop (mkF m 13 #[.val (.long j1), .second, .val (.long j2), .second, .val (.int i1), .val (.int i2), .unset, .unset, .unset] [(.int i1), (.int (8 : Int32)), (.long j1)]))
    refine own_go (fun _ k => XS.imul X0.here hx rfl (hb hby d4_13) rfl k) ?_
    show own_Fin p.tables e below _ (s₁.setTop (mkF m 14 #[.val (.long j1), .second, .val (.long j2), .second, .val (.int i1), .val (.int i2), .unset, .unset, .unset] [(.int ((8 : Int32) * i1)), (.long j1)]))
    refine own_go (fun _ k => XT.lushr X0.here hx rfl (hb hby d4_14) rfl k) ?_
    show own_Fin p.tables e below _ (s₁.setTop (mkF m 15 #[.val (.long j1), .second, .val (.long j2), .second, .val (.int i1), .val (.int i2), .unset, .unset, .unset] [(.long (XT.ushrL j1 ((8 : Int32) * i1)))]))
    refine own_go (fun _ k => XT.l2i X0.here hx rfl (hb hby d4_15) rfl k) ?_
    show own_Fin p.tables e below _ (s₁.setTop (mkF m 16 #[.val (.long j1), .second, .val (.long j2), .second, .val (.int i1), .val (.int i2), .unset, .unset, .unset] [(.int ((XT.ushrL j1 ((8 : Int32) * i1)).toInt32))]))
    refine own_go (fun _ k => XT.sipushV X0.here hx rfl (255 : Int32) (hb hby d4_16) (by decide) k) ?_
    show own_Fin p.tables e below _ (s₁.setTop (mkF m 19 #[.val (.long j1), .second, .val (.long j2), .second, .val (.int i1), .val (.int i2), .unset, .unset, .unset] [(.int (255 : Int32)), (.int ((XT.ushrL j1 ((8 : Int32) * i1)).toInt32))]))
    refine own_go (fun _ k => XS.iand X0.here hx rfl (hb hby d4_19) rfl k) ?_
    show own_Fin p.tables e below _ (s₁.setTop (mkF m 20 #[.val (.long j1), .second, .val (.long j2), .second, .val (.int i1), .val (.int i2), .unset, .unset, .unset] [(.int (((XT.ushrL j1 ((8 : Int32) * i1)).toInt32) &&& (255 : Int32)))]))
    refine own_go (fun _ k => XS.istore X0.here hx rfl (hb hby d4_20) rfl (l' := #[.val (.long j1), .second, .val (.long j2), .second, .val (.int i1), .val (.int i2), .val (.int (((XT.ushrL j1 ((8 : Int32) * i1)).toInt32) &&& (255 : Int32))), .unset, .unset]) rfl k) ?_
    show own_Fin p.tables e below _ (s₁.setTop (mkF m 22 #[.val (.long j1), .second, .val (.long j2), .second, .val (.int i1), .val (.int i2), .val (.int (((XT.ushrL j1 ((8 : Int32) * i1)).toInt32) &&& (255 : Int32))), .unset, .unset] []))
    refine own_go (fun _ k => XS.iload X0.here hx rfl (hb hby d4_22) rfl k) ?_
    show own_Fin p.tables e below _ (s₁.setTop (mkF m 24 #[.val (.long j1), .second, .val (.long j2), .second, .val (.int i1), .val (.int i2), .val (.int (((XT.ushrL j1 ((8 : Int32) * i1)).toInt32) &&& (255 : Int32))), .unset, .unset] [(.int (((XT.ushrL j1 ((8 : Int32) * i1)).toInt32) &&& (255 : Int32)))]))
    obtain ⟨_, T2, L2, X2, ⟨rfl, M2, e2⟩, st2⟩ := own_callS X0 hx hZ hown (hw _ (List.mem_of_getElem? (i := 20) rfl)) (hw _ (List.mem_of_getElem? (i := 21) rfl)) (hw _ (List.mem_of_getElem? (i := 18) rfl)) (hw _ (List.mem_of_getElem? (i := 22) rfl)) (by decide) (W := 0) (rm3 l Z a0 hw [] (((XT.ushrL j1 ((8 : Int32) * i1)).toInt32) &&& (255 : Int32)) h0 n0 (Nat.le_trans Z0 K0.1) ) (by decide) (by decide) e0 (g := (mkF m 24 #[.val (.long j1), .second, .val (.long j2), .second, .val (.int i1), .val (.int i2), .val (.int (((XT.ushrL j1 ((8 : Int32) * i1)).toInt32) &&& (255 : Int32))), .unset, .unset] [(.int (((XT.ushrL j1 ((8 : Int32) * i1)).toInt32) &&& (255 : Int32)))])) rfl (by rw [hml]; rfl) (argsL := [(.int (((XT.ushrL j1 ((8 : Int32) * i1)).toInt32) &&& (255 : Int32)))]) (rest := []) rfl (lenOf pd1 rfl) rfl (by show 2 * 0 + _ ≤ _; exact Nat.le_of_eq rfl) (hb hby d4_24) (by decide) (by decide)
    have N2 := Fr.app N0 M2
    refine own_go st2 ?_
    show own_Fin p.tables e below _ (T2.setTop (mkF m 27 #[.val (.long j1), .second, .val (.long j2), .second, .val (.int i1), .val (.int i2), .val (.int (((XT.ushrL j1 ((8 : Int32) * i1)).toInt32) &&& (255 : Int32))), .unset, .unset] [(.int (f3 (((XT.ushrL j1 ((8 : Int32) * i1)).toInt32) &&& (255 : Int32))))]))
    refine own_go (fun _ k => XS.istore X2.here hx rfl (hb hby d4_27) rfl (l' := #[.val (.long j1), .second, .val (.long j2), .second, .val (.int i1), .val (.int i2), .val (.int (((XT.ushrL j1 ((8 : Int32) * i1)).toInt32) &&& (255 : Int32))), .val (.int (f3 (((XT.ushrL j1 ((8 : Int32) * i1)).toInt32) &&& (255 : Int32)))), .unset]) rfl k) ?_
    show own_Fin p.tables e below _ (T2.setTop (mkF m 29 #[.val (.long j1), .second, .val (.long j2), .second, .val (.int i1), .val (.int i2), .val (.int (((XT.ushrL j1 ((8 : Int32) * i1)).toInt32) &&& (255 : Int32))), .val (.int (f3 (((XT.ushrL j1 ((8 : Int32) * i1)).toInt32) &&& (255 : Int32)))), .unset] []))
    obtain ⟨_, ⟨T3, L3, X3, N3, e3, rfl⟩, st3⟩ : own_Go p.tables e below (fun t => ∃ T' L', Stand p l e _ s m #[(.long j1), (.long j2), (.int i1), (.int i2)] below meth c T' L' 0 0 ∧ Fr n0 L' ∧ T'.heap = h0 ∧ t = T'.setTop (mkF m 51 #[.val (.long j1), .second, .val (.long j2), .second, .val (.int i1), .val (.int i2), .val (.int (((XT.ushrL j1 ((8 : Int32) * i1)).toInt32) &&& (255 : Int32))), .val (.int (f3 (((XT.ushrL j1 ((8 : Int32) * i1)).toInt32) &&& (255 : Int32)))), .unset] [(.int (own_bit j1 j2 i1 i2))])) (T2.setTop (mkF m 29 #[.val (.long j1), .second, .val (.long j2), .second, .val (.int i1), .val (.int i2), .val (.int (((XT.ushrL j1 ((8 : Int32) * i1)).toInt32) &&& (255 : Int32))), .val (.int (f3 (((XT.ushrL j1 ((8 : Int32) * i1)).toInt32) &&& (255 : Int32)))), .unset] [])) := by
      refine own_on (fun _ k => XT.lloadN X2.here hx rfl (hb hby d4_29) rfl k) ?_
      show own_Go p.tables e below _ (T2.setTop (mkF m 30 #[.val (.long j1), .second, .val (.long j2), .second, .val (.int i1), .val (.int i2), .val (.int (((XT.ushrL j1 ((8 : Int32) * i1)).toInt32) &&& (255 : Int32))), .val (.int (f3 (((XT.ushrL j1 ((8 : Int32) * i1)).toInt32) &&& (255 : Int32)))), .unset] [(.long j2)]))
      refine own_on (fun _ k => XT.bipushV X2.here hx rfl (8 : Int32) (hb hby d4_30) (by decide) k) ?_
      show own_Go p.tables e below _ (T2.setTop (mkF m 32 #[.val (.long j1), .second, .val (.long j2), .second, .val (.int i1), .val (.int i2), .val (.int (((XT.ushrL j1 ((8 : Int32) * i1)).toInt32) &&& (255 : Int32))), .val (.int (f3 (((XT.ushrL j1 ((8 : Int32) * i1)).toInt32) &&& (255 : Int32)))), .unset] [(.int (8 : Int32)), (.long j2)]))
      refine own_on (fun _ k => XS.iload X2.here hx rfl (hb hby d4_32) rfl k) ?_
      show own_Go p.tables e below _ (T2.setTop (mkF m 34 #[.val (.long j1), .second, .val (.long j2), .second, .val (.int i1), .val (.int i2), .val (.int (((XT.ushrL j1 ((8 : Int32) * i1)).toInt32) &&& (255 : Int32))), .val (.int (f3 (((XT.ushrL j1 ((8 : Int32) * i1)).toInt32) &&& (255 : Int32)))), .unset] [(.int i1), (.int (8 : Int32)), (.long j2)]))
      refine own_on (fun _ k => XS.imul X2.here hx rfl (hb hby d4_34) rfl k) ?_
      show own_Go p.tables e below _ (T2.setTop (mkF m 35 #[.val (.long j1), .second, .val (.long j2), .second, .val (.int i1), .val (.int i2), .val (.int (((XT.ushrL j1 ((8 : Int32) * i1)).toInt32) &&& (255 : Int32))), .val (.int (f3 (((XT.ushrL j1 ((8 : Int32) * i1)).toInt32) &&& (255 : Int32)))), .unset] [(.int ((8 : Int32) * i1)), (.long j2)]))
      refine own_on (fun _ k => XT.bipushV X2.here hx rfl (7 : Int32) (hb hby d4_35) (by decide) k) ?_
      show own_Go p.tables e below _ (T2.setTop (mkF m 37 #[.val (.long j1), .second, .val (.long j2), .second, .val (.int i1), .val (.int i2), .val (.int (((XT.ushrL j1 ((8 : Int32) * i1)).toInt32) &&& (255 : Int32))), .val (.int (f3 (((XT.ushrL j1 ((8 : Int32) * i1)).toInt32) &&& (255 : Int32)))), .unset] [(.int (7 : Int32)), (.int ((8 : Int32) * i1)), (.long j2)]))
      refine own_on (fun _ k => XS.iadd X2.here hx rfl (hb hby d4_37) rfl k) ?_
      show own_Go p.tables e below _ (T2.setTop (mkF m 38 #[.val (.long j1), .second, .val (.long j2), .second, .val (.int i1), .val (.int i2), .val (.int (((XT.ushrL j1 ((8 : Int32) * i1)).toInt32) &&& (255 : Int32))), .val (.int (f3 (((XT.ushrL j1 ((8 : Int32) * i1)).toInt32) &&& (255 : Int32)))), .unset] [(.int (((8 : Int32) * i1) + (7 : Int32))), (.long j2)]))
      refine own_on (fun _ k => XT.lushr X2.here hx rfl (hb hby d4_38) rfl k) ?_
      show own_Go p.tables e below _ (T2.setTop (mkF m 39 #[.val (.long j1), .second, .val (.long j2), .second, .val (.int i1), .val (.int i2), .val (.int (((XT.ushrL j1 ((8 : Int32) * i1)).toInt32) &&& (255 : Int32))), .val (.int (f3 (((XT.ushrL j1 ((8 : Int32) * i1)).toInt32) &&& (255 : Int32)))), .unset] [(.long (XT.ushrL j2 (((8 : Int32) * i1) + (7 : Int32))))]))
      refine own_on (fun _ k => XT.lconstV X2.here hx rfl (1 : Int64) (hb hby d4_39) (by decide) k) ?_
      show own_Go p.tables e below _ (T2.setTop (mkF m 40 #[.val (.long j1), .second, .val (.long j2), .second, .val (.int i1), .val (.int i2), .val (.int (((XT.ushrL j1 ((8 : Int32) * i1)).toInt32) &&& (255 : Int32))), .val (.int (f3 (((XT.ushrL j1 ((8 : Int32) * i1)).toInt32) &&& (255 : Int32)))), .unset] [(.long (1 : Int64)), (.long (XT.ushrL j2 (((8 : Int32) * i1) + (7 : Int32))))]))
      refine own_on (fun _ k => XT.land X2.here hx rfl (hb hby d4_40) rfl k) ?_
      show own_Go p.tables e below _ (T2.setTop (mkF m 41 #[.val (.long j1), .second, .val (.long j2), .second, .val (.int i1), .val (.int i2), .val (.int (((XT.ushrL j1 ((8 : Int32) * i1)).toInt32) &&& (255 : Int32))), .val (.int (f3 (((XT.ushrL j1 ((8 : Int32) * i1)).toInt32) &&& (255 : Int32)))), .unset] [(.long ((XT.ushrL j2 (((8 : Int32) * i1) + (7 : Int32))) &&& (1 : Int64)))]))
      refine own_on (fun _ k => XT.lconstV X2.here hx rfl (0 : Int64) (hb hby d4_41) (by decide) k) ?_
      show own_Go p.tables e below _ (T2.setTop (mkF m 42 #[.val (.long j1), .second, .val (.long j2), .second, .val (.int i1), .val (.int i2), .val (.int (((XT.ushrL j1 ((8 : Int32) * i1)).toInt32) &&& (255 : Int32))), .val (.int (f3 (((XT.ushrL j1 ((8 : Int32) * i1)).toInt32) &&& (255 : Int32)))), .unset] [(.long (0 : Int64)), (.long ((XT.ushrL j2 (((8 : Int32) * i1) + (7 : Int32))) &&& (1 : Int64)))]))
      refine own_on (fun _ k => XT.lcmp X2.here hx rfl (hb hby d4_42) rfl k) ?_
      show own_Go p.tables e below _ (T2.setTop (mkF m 43 #[.val (.long j1), .second, .val (.long j2), .second, .val (.int i1), .val (.int i2), .val (.int (((XT.ushrL j1 ((8 : Int32) * i1)).toInt32) &&& (255 : Int32))), .val (.int (f3 (((XT.ushrL j1 ((8 : Int32) * i1)).toInt32) &&& (255 : Int32)))), .unset] [(.int (XT.cmpL ((XT.ushrL j2 (((8 : Int32) * i1) + (7 : Int32))) &&& (1 : Int64)) (0 : Int64)))]))
      by_cases hc4 : ((XT.ushrL j2 (((8 : Int32) * i1) + (7 : Int32))) &&& (1 : Int64)) = (0 : Int64)
      · refine own_on (fun _ k => XS.ifYes X2.here hx rfl (pc0 := 43) (pc' := 50) rfl (hb hby d4_43) rfl (XT.ll_eq_t hc4) (by decide) (by decide) k) ?_
        show own_Go p.tables e below _ (T2.setTop (mkF m 50 #[.val (.long j1), .second, .val (.long j2), .second, .val (.int i1), .val (.int i2), .val (.int (((XT.ushrL j1 ((8 : Int32) * i1)).toInt32) &&& (255 : Int32))), .val (.int (f3 (((XT.ushrL j1 ((8 : Int32) * i1)).toInt32) &&& (255 : Int32)))), .unset] []))
        refine own_on (fun _ k => XT.iconstV X2.here hx rfl (0 : Int32) (hb hby d4_50) (by decide) k) ?_
        show own_Go p.tables e below _ (T2.setTop (mkF m 51 #[.val (.long j1), .second, .val (.long j2), .second, .val (.int i1), .val (.int i2), .val (.int (((XT.ushrL j1 ((8 : Int32) * i1)).toInt32) &&& (255 : Int32))), .val (.int (f3 (((XT.ushrL j1 ((8 : Int32) * i1)).toInt32) &&& (255 : Int32)))), .unset] [(.int (0 : Int32))]))
        exact own_here ⟨T2, _, X2, N2, e2, by rw [show (own_bit j1 j2 i1 i2) = (0 : Int32) from by simp only [own_bit, if_pos hc4]]⟩
      · refine own_on (fun _ k => XS.ifNo X2.here hx rfl (hb hby d4_43) rfl (XT.ll_eq_f hc4) k) ?_
        show own_Go p.tables e below _ (T2.setTop (mkF m 46 #[.val (.long j1), .second, .val (.long j2), .second, .val (.int i1), .val (.int i2), .val (.int (((XT.ushrL j1 ((8 : Int32) * i1)).toInt32) &&& (255 : Int32))), .val (.int (f3 (((XT.ushrL j1 ((8 : Int32) * i1)).toInt32) &&& (255 : Int32)))), .unset] []))
        refine own_on (fun _ k => XT.iconstV X2.here hx rfl (1 : Int32) (hb hby d4_46) (by decide) k) ?_
        show own_Go p.tables e below _ (T2.setTop (mkF m 47 #[.val (.long j1), .second, .val (.long j2), .second, .val (.int i1), .val (.int i2), .val (.int (((XT.ushrL j1 ((8 : Int32) * i1)).toInt32) &&& (255 : Int32))), .val (.int (f3 (((XT.ushrL j1 ((8 : Int32) * i1)).toInt32) &&& (255 : Int32)))), .unset] [(.int (1 : Int32))]))
        refine own_on (fun _ k => XS.goto X2.here hx rfl (pc0 := 47) (pc' := 51) rfl (hb hby d4_47) (by decide) (by decide) k) ?_
        show own_Go p.tables e below _ (T2.setTop (mkF m 51 #[.val (.long j1), .second, .val (.long j2), .second, .val (.int i1), .val (.int i2), .val (.int (((XT.ushrL j1 ((8 : Int32) * i1)).toInt32) &&& (255 : Int32))), .val (.int (f3 (((XT.ushrL j1 ((8 : Int32) * i1)).toInt32) &&& (255 : Int32)))), .unset] [(.int (1 : Int32))]))
        exact own_here ⟨T2, _, X2, N2, e2, by rw [show (own_bit j1 j2 i1 i2) = (1 : Int32) from by simp only [own_bit, if_neg hc4]]⟩
    refine own_go st3 ?_
    show own_Fin p.tables e below _ (T3.setTop (mkF m 51 #[.val (.long j1), .second, .val (.long j2), .second, .val (.int i1), .val (.int i2), .val (.int (((XT.ushrL j1 ((8 : Int32) * i1)).toInt32) &&& (255 : Int32))), .val (.int (f3 (((XT.ushrL j1 ((8 : Int32) * i1)).toInt32) &&& (255 : Int32)))), .unset] [(.int (own_bit j1 j2 i1 i2))]))
    refine own_go (fun _ k => XS.istore X3.here hx rfl (hb hby d4_51) rfl (l' := #[.val (.long j1), .second, .val (.long j2), .second, .val (.int i1), .val (.int i2), .val (.int (((XT.ushrL j1 ((8 : Int32) * i1)).toInt32) &&& (255 : Int32))), .val (.int (f3 (((XT.ushrL j1 ((8 : Int32) * i1)).toInt32) &&& (255 : Int32)))), .val (.int (own_bit j1 j2 i1 i2))]) rfl k) ?_
    show own_Fin p.tables e below _ (T3.setTop (mkF m 53 #[.val (.long j1), .second, .val (.long j2), .second, .val (.int i1), .val (.int i2), .val (.int (((XT.ushrL j1 ((8 : Int32) * i1)).toInt32) &&& (255 : Int32))), .val (.int (f3 (((XT.ushrL j1 ((8 : Int32) * i1)).toInt32) &&& (255 : Int32)))), .val (.int (own_bit j1 j2 i1 i2))] []))
    refine own_go (fun _ k => XS.iload X3.here hx rfl (hb hby d4_53) rfl k) ?_
    show own_Fin p.tables e below _ (T3.setTop (mkF m 55 #[.val (.long j1), .second, .val (.long j2), .second, .val (.int i1), .val (.int i2), .val (.int (((XT.ushrL j1 ((8 : Int32) * i1)).toInt32) &&& (255 : Int32))), .val (.int (f3 (((XT.ushrL j1 ((8 : Int32) * i1)).toInt32) &&& (255 : Int32)))), .val (.int (own_bit j1 j2 i1 i2))] [(.int (f3 (((XT.ushrL j1 ((8 : Int32) * i1)).toInt32) &&& (255 : Int32))))]))
    by_cases hc5 : (f3 (((XT.ushrL j1 ((8 : Int32) * i1)).toInt32) &&& (255 : Int32))) = (0 : Int32)
    · refine own_go (fun _ k => XS.ifYes X3.here hx rfl (pc0 := 55) (pc' := 65) rfl (hb hby d4_55) rfl (XT.i0_eq_t hc5) (by decide) (by decide) k) ?_
      show own_Fin p.tables e below _ (T3.setTop (mkF m 65 #[.val (.long j1), .second, .val (.long j2), .second, .val (.int i1), .val (.int i2), .val (.int (((XT.ushrL j1 ((8 : Int32) * i1)).toInt32) &&& (255 : Int32))), .val (.int (f3 (((XT.ushrL j1 ((8 : Int32) * i1)).toInt32) &&& (255 : Int32)))), .val (.int (own_bit j1 j2 i1 i2))] []))
      refine own_go (fun _ k => XS.iload X3.here hx rfl (hb hby d4_65) rfl k) ?_
      show own_Fin p.tables e below _ (T3.setTop (mkF m 67 #[.val (.long j1), .second, .val (.long j2), .second, .val (.int i1), .val (.int i2), .val (.int (((XT.ushrL j1 ((8 : Int32) * i1)).toInt32) &&& (255 : Int32))), .val (.int (f3 (((XT.ushrL j1 ((8 : Int32) * i1)).toInt32) &&& (255 : Int32)))), .val (.int (own_bit j1 j2 i1 i2))] [(.int i2)]))
      by_cases hc6 : i2 = (0 : Int32)
      · refine own_go (fun _ k => XS.ifNo X3.here hx rfl (hb hby d4_67) rfl (XT.i0_ne_f hc6) k) ?_
        show own_Fin p.tables e below _ (T3.setTop (mkF m 70 #[.val (.long j1), .second, .val (.long j2), .second, .val (.int i1), .val (.int i2), .val (.int (((XT.ushrL j1 ((8 : Int32) * i1)).toInt32) &&& (255 : Int32))), .val (.int (f3 (((XT.ushrL j1 ((8 : Int32) * i1)).toInt32) &&& (255 : Int32)))), .val (.int (own_bit j1 j2 i1 i2))] []))
        refine own_go (fun _ k => XS.iload X3.here hx rfl (hb hby d4_70) rfl k) ?_
        show own_Fin p.tables e below _ (T3.setTop (mkF m 72 #[.val (.long j1), .second, .val (.long j2), .second, .val (.int i1), .val (.int i2), .val (.int (((XT.ushrL j1 ((8 : Int32) * i1)).toInt32) &&& (255 : Int32))), .val (.int (f3 (((XT.ushrL j1 ((8 : Int32) * i1)).toInt32) &&& (255 : Int32)))), .val (.int (own_bit j1 j2 i1 i2))] [(.int (own_bit j1 j2 i1 i2))]))
        refine own_go (fun _ k => XS.iload X3.here hx rfl (hb hby d4_72) rfl k) ?_
        show own_Fin p.tables e below _ (T3.setTop (mkF m 74 #[.val (.long j1), .second, .val (.long j2), .second, .val (.int i1), .val (.int i2), .val (.int (((XT.ushrL j1 ((8 : Int32) * i1)).toInt32) &&& (255 : Int32))), .val (.int (f3 (((XT.ushrL j1 ((8 : Int32) * i1)).toInt32) &&& (255 : Int32)))), .val (.int (own_bit j1 j2 i1 i2))] [(.int (f3 (((XT.ushrL j1 ((8 : Int32) * i1)).toInt32) &&& (255 : Int32)))), (.int (own_bit j1 j2 i1 i2))]))
        by_cases hc7 : (own_bit j1 j2 i1 i2) = (f3 (((XT.ushrL j1 ((8 : Int32) * i1)).toInt32) &&& (255 : Int32)))
        · refine own_go (fun _ k => XS.icmpYes X3.here hx rfl (pc0 := 74) (pc' := 79) rfl (hb hby d4_74) rfl (XT.ii_eq_t hc7) (by decide) (by decide) k) ?_
          show own_Fin p.tables e below _ (T3.setTop (mkF m 79 #[.val (.long j1), .second, .val (.long j2), .second, .val (.int i1), .val (.int i2), .val (.int (((XT.ushrL j1 ((8 : Int32) * i1)).toInt32) &&& (255 : Int32))), .val (.int (f3 (((XT.ushrL j1 ((8 : Int32) * i1)).toInt32) &&& (255 : Int32)))), .val (.int (own_bit j1 j2 i1 i2))] []))
          refine own_go (fun _ k => XS.iload X3.here hx rfl (hb hby d4_79) rfl k) ?_
          show own_Fin p.tables e below _ (T3.setTop (mkF m 81 #[.val (.long j1), .second, .val (.long j2), .second, .val (.int i1), .val (.int i2), .val (.int (((XT.ushrL j1 ((8 : Int32) * i1)).toInt32) &&& (255 : Int32))), .val (.int (f3 (((XT.ushrL j1 ((8 : Int32) * i1)).toInt32) &&& (255 : Int32)))), .val (.int (own_bit j1 j2 i1 i2))] [(.int (f3 (((XT.ushrL j1 ((8 : Int32) * i1)).toInt32) &&& (255 : Int32))))]))
          refine own_go (fun _ k => XS.ifYes X3.here hx rfl (pc0 := 81) (pc' := 88) rfl (hb hby d4_81) rfl (XT.i0_eq_t hc5) (by decide) (by decide) k) ?_
          show own_Fin p.tables e below _ (T3.setTop (mkF m 88 #[.val (.long j1), .second, .val (.long j2), .second, .val (.int i1), .val (.int i2), .val (.int (((XT.ushrL j1 ((8 : Int32) * i1)).toInt32) &&& (255 : Int32))), .val (.int (f3 (((XT.ushrL j1 ((8 : Int32) * i1)).toInt32) &&& (255 : Int32)))), .val (.int (own_bit j1 j2 i1 i2))] []))
          refine own_go (fun _ k => XS.iload X3.here hx rfl (hb hby d4_88) rfl k) ?_
          show own_Fin p.tables e below _ (T3.setTop (mkF m 90 #[.val (.long j1), .second, .val (.long j2), .second, .val (.int i1), .val (.int i2), .val (.int (((XT.ushrL j1 ((8 : Int32) * i1)).toInt32) &&& (255 : Int32))), .val (.int (f3 (((XT.ushrL j1 ((8 : Int32) * i1)).toInt32) &&& (255 : Int32)))), .val (.int (own_bit j1 j2 i1 i2))] [(.int i2)]))
          refine own_retI X3 hx hlk hret (hb hby d4_90) ?_ (by decide) (by decide)
          exact ⟨by rw [show f4 j1 j2 i1 i2 = i2 from by simp only [f4, if_neg hc1, if_pos hc5, if_pos hc6, if_pos hc7]] <;> rfl, N3, e3⟩
        · refine own_go (fun _ k => XS.icmpNo X3.here hx rfl (hb hby d4_74) rfl (XT.ii_eq_f hc7) k) ?_
          show own_Fin p.tables e below _ (T3.setTop (mkF m 77 #[.val (.long j1), .second, .val (.long j2), .second, .val (.int i1), .val (.int i2), .val (.int (((XT.ushrL j1 ((8 : Int32) * i1)).toInt32) &&& (255 : Int32))), .val (.int (f3 (((XT.ushrL j1 ((8 : Int32) * i1)).toInt32) &&& (255 : Int32)))), .val (.int (own_bit j1 j2 i1 i2))] []))
          refine own_go (fun _ k => XT.iconstV X3.here hx rfl (2 : Int32) (hb hby d4_77) (by decide) k) ?_
          show own_Fin p.tables e below _ (T3.setTop (mkF m 78 #[.val (.long j1), .second, .val (.long j2), .second, .val (.int i1), .val (.int i2), .val (.int (((XT.ushrL j1 ((8 : Int32) * i1)).toInt32) &&& (255 : Int32))), .val (.int (f3 (((XT.ushrL j1 ((8 : Int32) * i1)).toInt32) &&& (255 : Int32)))), .val (.int (own_bit j1 j2 i1 i2))] [(.int (2 : Int32))]))
          refine own_retI X3 hx hlk hret (hb hby d4_78) ?_ (by decide) (by decide)
          exact ⟨by rw [show f4 j1 j2 i1 i2 = (2 : Int32) from by simp only [f4, if_neg hc1, if_pos hc5, if_pos hc6, if_neg hc7]] <;> rfl, N3, e3⟩
      · refine own_go (fun _ k => XS.ifYes X3.here hx rfl (pc0 := 67) (pc' := 79) rfl (hb hby d4_67) rfl (XT.i0_ne_t hc6) (by decide) (by decide) k) ?_
        show own_Fin p.tables e below _ (T3.setTop (mkF m 79 #[.val (.long j1), .second, .val (.long j2), .second, .val (.int i1), .val (.int i2), .val (.int (((XT.ushrL j1 ((8 : Int32) * i1)).toInt32) &&& (255 : Int32))), .val (.int (f3 (((XT.ushrL j1 ((8 : Int32) * i1)).toInt32) &&& (255 : Int32)))), .val (.int (own_bit j1 j2 i1 i2))] []))
        refine own_go (fun _ k => XS.iload X3.here hx rfl (hb hby d4_79) rfl k) ?_
        show own_Fin p.tables e below _ (T3.setTop (mkF m 81 #[.val (.long j1), .second, .val (.long j2), .second, .val (.int i1), .val (.int i2), .val (.int (((XT.ushrL j1 ((8 : Int32) * i1)).toInt32) &&& (255 : Int32))), .val (.int (f3 (((XT.ushrL j1 ((8 : Int32) * i1)).toInt32) &&& (255 : Int32)))), .val (.int (own_bit j1 j2 i1 i2))] [(.int (f3 (((XT.ushrL j1 ((8 : Int32) * i1)).toInt32) &&& (255 : Int32))))]))
        refine own_go (fun _ k => XS.ifYes X3.here hx rfl (pc0 := 81) (pc' := 88) rfl (hb hby d4_81) rfl (XT.i0_eq_t hc5) (by decide) (by decide) k) ?_
        show own_Fin p.tables e below _ (T3.setTop (mkF m 88 #[.val (.long j1), .second, .val (.long j2), .second, .val (.int i1), .val (.int i2), .val (.int (((XT.ushrL j1 ((8 : Int32) * i1)).toInt32) &&& (255 : Int32))), .val (.int (f3 (((XT.ushrL j1 ((8 : Int32) * i1)).toInt32) &&& (255 : Int32)))), .val (.int (own_bit j1 j2 i1 i2))] []))
        refine own_go (fun _ k => XS.iload X3.here hx rfl (hb hby d4_88) rfl k) ?_
        show own_Fin p.tables e below _ (T3.setTop (mkF m 90 #[.val (.long j1), .second, .val (.long j2), .second, .val (.int i1), .val (.int i2), .val (.int (((XT.ushrL j1 ((8 : Int32) * i1)).toInt32) &&& (255 : Int32))), .val (.int (f3 (((XT.ushrL j1 ((8 : Int32) * i1)).toInt32) &&& (255 : Int32)))), .val (.int (own_bit j1 j2 i1 i2))] [(.int i2)]))
        refine own_retI X3 hx hlk hret (hb hby d4_90) ?_ (by decide) (by decide)
        exact ⟨by rw [show f4 j1 j2 i1 i2 = i2 from by simp only [f4, if_neg hc1, if_pos hc5, if_neg hc6]] <;> rfl, N3, e3⟩
    · refine own_go (fun _ k => XS.ifNo X3.here hx rfl (hb hby d4_55) rfl (XT.i0_eq_f hc5) k) ?_
      show own_Fin p.tables e below _ (T3.setTop (mkF m 58 #[.val (.long j1), .second, .val (.long j2), .second, .val (.int i1), .val (.int i2), .val (.int (((XT.ushrL j1 ((8 : Int32) * i1)).toInt32) &&& (255 : Int32))), .val (.int (f3 (((XT.ushrL j1 ((8 : Int32) * i1)).toInt32) &&& (255 : Int32)))), .val (.int (own_bit j1 j2 i1 i2))] []))
      refine own_go (fun _ k => XS.iload X3.here hx rfl (hb hby d4_58) rfl k) ?_
      show own_Fin p.tables e below _ (T3.setTop (mkF m 60 #[.val (.long j1), .second, .val (.long j2), .second, .val (.int i1), .val (.int i2), .val (.int (((XT.ushrL j1 ((8 : Int32) * i1)).toInt32) &&& (255 : Int32))), .val (.int (f3 (((XT.ushrL j1 ((8 : Int32) * i1)).toInt32) &&& (255 : Int32)))), .val (.int (own_bit j1 j2 i1 i2))] [(.int (own_bit j1 j2 i1 i2))]))
      by_cases hc8 : (own_bit j1 j2 i1 i2) = (0 : Int32)
      · refine own_go (fun _ k => XS.ifNo X3.here hx rfl (hb hby d4_60) rfl (XT.i0_ne_f hc8) k) ?_
        show own_Fin p.tables e below _ (T3.setTop (mkF m 63 #[.val (.long j1), .second, .val (.long j2), .second, .val (.int i1), .val (.int i2), .val (.int (((XT.ushrL j1 ((8 : Int32) * i1)).toInt32) &&& (255 : Int32))), .val (.int (f3 (((XT.ushrL j1 ((8 : Int32) * i1)).toInt32) &&& (255 : Int32)))), .val (.int (own_bit j1 j2 i1 i2))] []))
        refine own_go (fun _ k => XT.iconstV X3.here hx rfl (2 : Int32) (hb hby d4_63) (by decide) k) ?_
        show own_Fin p.tables e below _ (T3.setTop (mkF m 64 #[.val (.long j1), .second, .val (.long j2), .second, .val (.int i1), .val (.int i2), .val (.int (((XT.ushrL j1 ((8 : Int32) * i1)).toInt32) &&& (255 : Int32))), .val (.int (f3 (((XT.ushrL j1 ((8 : Int32) * i1)).toInt32) &&& (255 : Int32)))), .val (.int (own_bit j1 j2 i1 i2))] [(.int (2 : Int32))]))
        refine own_retI X3 hx hlk hret (hb hby d4_64) ?_ (by decide) (by decide)
        exact ⟨by rw [show f4 j1 j2 i1 i2 = (2 : Int32) from by simp only [f4, if_neg hc1, if_neg hc5, if_pos hc8]] <;> rfl, N3, e3⟩
      · refine own_go (fun _ k => XS.ifYes X3.here hx rfl (pc0 := 60) (pc' := 65) rfl (hb hby d4_60) rfl (XT.i0_ne_t hc8) (by decide) (by decide) k) ?_
        show own_Fin p.tables e below _ (T3.setTop (mkF m 65 #[.val (.long j1), .second, .val (.long j2), .second, .val (.int i1), .val (.int i2), .val (.int (((XT.ushrL j1 ((8 : Int32) * i1)).toInt32) &&& (255 : Int32))), .val (.int (f3 (((XT.ushrL j1 ((8 : Int32) * i1)).toInt32) &&& (255 : Int32)))), .val (.int (own_bit j1 j2 i1 i2))] []))
        refine own_go (fun _ k => XS.iload X3.here hx rfl (hb hby d4_65) rfl k) ?_
        show own_Fin p.tables e below _ (T3.setTop (mkF m 67 #[.val (.long j1), .second, .val (.long j2), .second, .val (.int i1), .val (.int i2), .val (.int (((XT.ushrL j1 ((8 : Int32) * i1)).toInt32) &&& (255 : Int32))), .val (.int (f3 (((XT.ushrL j1 ((8 : Int32) * i1)).toInt32) &&& (255 : Int32)))), .val (.int (own_bit j1 j2 i1 i2))] [(.int i2)]))
        by_cases hc9 : i2 = (0 : Int32)
        · refine own_go (fun _ k => XS.ifNo X3.here hx rfl (hb hby d4_67) rfl (XT.i0_ne_f hc9) k) ?_
          show own_Fin p.tables e below _ (T3.setTop (mkF m 70 #[.val (.long j1), .second, .val (.long j2), .second, .val (.int i1), .val (.int i2), .val (.int (((XT.ushrL j1 ((8 : Int32) * i1)).toInt32) &&& (255 : Int32))), .val (.int (f3 (((XT.ushrL j1 ((8 : Int32) * i1)).toInt32) &&& (255 : Int32)))), .val (.int (own_bit j1 j2 i1 i2))] []))
          refine own_go (fun _ k => XS.iload X3.here hx rfl (hb hby d4_70) rfl k) ?_
          show own_Fin p.tables e below _ (T3.setTop (mkF m 72 #[.val (.long j1), .second, .val (.long j2), .second, .val (.int i1), .val (.int i2), .val (.int (((XT.ushrL j1 ((8 : Int32) * i1)).toInt32) &&& (255 : Int32))), .val (.int (f3 (((XT.ushrL j1 ((8 : Int32) * i1)).toInt32) &&& (255 : Int32)))), .val (.int (own_bit j1 j2 i1 i2))] [(.int (own_bit j1 j2 i1 i2))]))
          refine own_go (fun _ k => XS.iload X3.here hx rfl (hb hby d4_72) rfl k) ?_
          show own_Fin p.tables e below _ (T3.setTop (mkF m 74 #[.val (.long j1), .second, .val (.long j2), .second, .val (.int i1), .val (.int i2), .val (.int (((XT.ushrL j1 ((8 : Int32) * i1)).toInt32) &&& (255 : Int32))), .val (.int (f3 (((XT.ushrL j1 ((8 : Int32) * i1)).toInt32) &&& (255 : Int32)))), .val (.int (own_bit j1 j2 i1 i2))] [(.int (f3 (((XT.ushrL j1 ((8 : Int32) * i1)).toInt32) &&& (255 : Int32)))), (.int (own_bit j1 j2 i1 i2))]))
          by_cases hc10 : (own_bit j1 j2 i1 i2) = (f3 (((XT.ushrL j1 ((8 : Int32) * i1)).toInt32) &&& (255 : Int32)))
          · refine own_go (fun _ k => XS.icmpYes X3.here hx rfl (pc0 := 74) (pc' := 79) rfl (hb hby d4_74) rfl (XT.ii_eq_t hc10) (by decide) (by decide) k) ?_
            show own_Fin p.tables e below _ (T3.setTop (mkF m 79 #[.val (.long j1), .second, .val (.long j2), .second, .val (.int i1), .val (.int i2), .val (.int (((XT.ushrL j1 ((8 : Int32) * i1)).toInt32) &&& (255 : Int32))), .val (.int (f3 (((XT.ushrL j1 ((8 : Int32) * i1)).toInt32) &&& (255 : Int32)))), .val (.int (own_bit j1 j2 i1 i2))] []))
            refine own_go (fun _ k => XS.iload X3.here hx rfl (hb hby d4_79) rfl k) ?_
            show own_Fin p.tables e below _ (T3.setTop (mkF m 81 #[.val (.long j1), .second, .val (.long j2), .second, .val (.int i1), .val (.int i2), .val (.int (((XT.ushrL j1 ((8 : Int32) * i1)).toInt32) &&& (255 : Int32))), .val (.int (f3 (((XT.ushrL j1 ((8 : Int32) * i1)).toInt32) &&& (255 : Int32)))), .val (.int (own_bit j1 j2 i1 i2))] [(.int (f3 (((XT.ushrL j1 ((8 : Int32) * i1)).toInt32) &&& (255 : Int32))))]))
            refine own_go (fun _ k => XS.ifNo X3.here hx rfl (hb hby d4_81) rfl (XT.i0_eq_f hc5) k) ?_
            show own_Fin p.tables e below _ (T3.setTop (mkF m 84 #[.val (.long j1), .second, .val (.long j2), .second, .val (.int i1), .val (.int i2), .val (.int (((XT.ushrL j1 ((8 : Int32) * i1)).toInt32) &&& (255 : Int32))), .val (.int (f3 (((XT.ushrL j1 ((8 : Int32) * i1)).toInt32) &&& (255 : Int32)))), .val (.int (own_bit j1 j2 i1 i2))] []))
            refine own_go (fun _ k => XT.iconstV X3.here hx rfl (1 : Int32) (hb hby d4_84) (by decide) k) ?_
            show own_Fin p.tables e below _ (T3.setTop (mkF m 85 #[.val (.long j1), .second, .val (.long j2), .second, .val (.int i1), .val (.int i2), .val (.int (((XT.ushrL j1 ((8 : Int32) * i1)).toInt32) &&& (255 : Int32))), .val (.int (f3 (((XT.ushrL j1 ((8 : Int32) * i1)).toInt32) &&& (255 : Int32)))), .val (.int (own_bit j1 j2 i1 i2))] [(.int (1 : Int32))]))
            refine own_go (fun _ k => XS.goto X3.here hx rfl (pc0 := 85) (pc' := 90) rfl (hb hby d4_85) (by decide) (by decide) k) ?_
            show own_Fin p.tables e below _ (T3.setTop (mkF m 90 #[.val (.long j1), .second, .val (.long j2), .second, .val (.int i1), .val (.int i2), .val (.int (((XT.ushrL j1 ((8 : Int32) * i1)).toInt32) &&& (255 : Int32))), .val (.int (f3 (((XT.ushrL j1 ((8 : Int32) * i1)).toInt32) &&& (255 : Int32)))), .val (.int (own_bit j1 j2 i1 i2))] [(.int (1 : Int32))]))
            refine own_retI X3 hx hlk hret (hb hby d4_90) ?_ (by decide) (by decide)
            exact ⟨by rw [show f4 j1 j2 i1 i2 = (1 : Int32) from by simp only [f4, if_neg hc1, if_neg hc5, if_neg hc8, if_pos hc9, if_pos hc10]] <;> rfl, N3, e3⟩
          · refine own_go (fun _ k => XS.icmpNo X3.here hx rfl (hb hby d4_74) rfl (XT.ii_eq_f hc10) k) ?_
            show own_Fin p.tables e below _ (T3.setTop (mkF m 77 #[.val (.long j1), .second, .val (.long j2), .second, .val (.int i1), .val (.int i2), .val (.int (((XT.ushrL j1 ((8 : Int32) * i1)).toInt32) &&& (255 : Int32))), .val (.int (f3 (((XT.ushrL j1 ((8 : Int32) * i1)).toInt32) &&& (255 : Int32)))), .val (.int (own_bit j1 j2 i1 i2))] []))
            refine own_go (fun _ k => XT.iconstV X3.here hx rfl (2 : Int32) (hb hby d4_77) (by decide) k) ?_
            show own_Fin p.tables e below _ (T3.setTop (mkF m 78 #[.val (.long j1), .second, .val (.long j2), .second, .val (.int i1), .val (.int i2), .val (.int (((XT.ushrL j1 ((8 : Int32) * i1)).toInt32) &&& (255 : Int32))), .val (.int (f3 (((XT.ushrL j1 ((8 : Int32) * i1)).toInt32) &&& (255 : Int32)))), .val (.int (own_bit j1 j2 i1 i2))] [(.int (2 : Int32))]))
            refine own_retI X3 hx hlk hret (hb hby d4_78) ?_ (by decide) (by decide)
            exact ⟨by rw [show f4 j1 j2 i1 i2 = (2 : Int32) from by simp only [f4, if_neg hc1, if_neg hc5, if_neg hc8, if_pos hc9, if_neg hc10]] <;> rfl, N3, e3⟩
        · refine own_go (fun _ k => XS.ifYes X3.here hx rfl (pc0 := 67) (pc' := 79) rfl (hb hby d4_67) rfl (XT.i0_ne_t hc9) (by decide) (by decide) k) ?_
          show own_Fin p.tables e below _ (T3.setTop (mkF m 79 #[.val (.long j1), .second, .val (.long j2), .second, .val (.int i1), .val (.int i2), .val (.int (((XT.ushrL j1 ((8 : Int32) * i1)).toInt32) &&& (255 : Int32))), .val (.int (f3 (((XT.ushrL j1 ((8 : Int32) * i1)).toInt32) &&& (255 : Int32)))), .val (.int (own_bit j1 j2 i1 i2))] []))
          refine own_go (fun _ k => XS.iload X3.here hx rfl (hb hby d4_79) rfl k) ?_
          show own_Fin p.tables e below _ (T3.setTop (mkF m 81 #[.val (.long j1), .second, .val (.long j2), .second, .val (.int i1), .val (.int i2), .val (.int (((XT.ushrL j1 ((8 : Int32) * i1)).toInt32) &&& (255 : Int32))), .val (.int (f3 (((XT.ushrL j1 ((8 : Int32) * i1)).toInt32) &&& (255 : Int32)))), .val (.int (own_bit j1 j2 i1 i2))] [(.int (f3 (((XT.ushrL j1 ((8 : Int32) * i1)).toInt32) &&& (255 : Int32))))]))
          refine own_go (fun _ k => XS.ifNo X3.here hx rfl (hb hby d4_81) rfl (XT.i0_eq_f hc5) k) ?_
          show own_Fin p.tables e below _ (T3.setTop (mkF m 84 #[.val (.long j1), .second, .val (.long j2), .second, .val (.int i1), .val (.int i2), .val (.int (((XT.ushrL j1 ((8 : Int32) * i1)).toInt32) &&& (255 : Int32))), .val (.int (f3 (((XT.ushrL j1 ((8 : Int32) * i1)).toInt32) &&& (255 : Int32)))), .val (.int (own_bit j1 j2 i1 i2))] []))
          refine own_go (fun _ k => XT.iconstV X3.here hx rfl (1 : Int32) (hb hby d4_84) (by decide) k) ?_
          show own_Fin p.tables e below _ (T3.setTop (mkF m 85 #[.val (.long j1), .second, .val (.long j2), .second, .val (.int i1), .val (.int i2), .val (.int (((XT.ushrL j1 ((8 : Int32) * i1)).toInt32) &&& (255 : Int32))), .val (.int (f3 (((XT.ushrL j1 ((8 : Int32) * i1)).toInt32) &&& (255 : Int32)))), .val (.int (own_bit j1 j2 i1 i2))] [(.int (1 : Int32))]))
          refine own_go (fun _ k => XS.goto X3.here hx rfl (pc0 := 85) (pc' := 90) rfl (hb hby d4_85) (by decide) (by decide) k) ?_
          show own_Fin p.tables e below _ (T3.setTop (mkF m 90 #[.val (.long j1), .second, .val (.long j2), .second, .val (.int i1), .val (.int i2), .val (.int (((XT.ushrL j1 ((8 : Int32) * i1)).toInt32) &&& (255 : Int32))), .val (.int (f3 (((XT.ushrL j1 ((8 : Int32) * i1)).toInt32) &&& (255 : Int32)))), .val (.int (own_bit j1 j2 i1 i2))] [(.int (1 : Int32))]))
          refine own_retI X3 hx hlk hret (hb hby d4_90) ?_ (by decide) (by decide)
          exact ⟨by rw [show f4 j1 j2 i1 i2 = (1 : Int32) from by simp only [f4, if_neg hc1, if_neg hc5, if_neg hc8, if_neg hc9]] <;> rfl, N3, e3⟩
theorem pd3 : parseMethodDescriptor "(J)Z" = some ⟨[.long], some .boolean⟩ := by decide +kernel
theorem ef0 (m : MethodId) (j1 : Int64) : entryFrame m #[(.long j1)] maxLocals = mkF m 0 #[.val (.long j1), .second, .unset, .unset, .unset] [] := by first | (simp [entryFrame, mkF, argsToLocals, Value.category, maxLocals]; done) | rfl
def f0 (j1 : Int64) : Int32 := (if ((f2 j1) &&& (9187201950435737471 : Int64)) = (0 : Int64) then (if (f4 j1 (f2 j1) (7 : Int32) (f4 j1 (f2 j1) (6 : Int32) (f4 j1 (f2 j1) (5 : Int32) (f4 j1 (f2 j1) (4 : Int32) (f4 j1 (f2 j1) (3 : Int32) (f4 j1 (f2 j1) (2 : Int32) (f4 j1 (f2 j1) (1 : Int32) (f4 j1 (f2 j1) (0 : Int32) (0 : Int32))))))))) = (2 : Int32) then (0 : Int32) else (1 : Int32)) else (0 : Int32))
def own_stop (n : Nat) : Prop := n < 32 ∨ n = 34 ∨ n = 92 ∨ n = 127 ∨ n = 194 ∨ n = 255
theorem own_tb (B : BitVec 64) (i : Nat) : B.getLsbD i = decide (B.toNat / 2 ^ i % 2 = 1) := by
  rw [BitVec.getLsbD, Nat.testBit_eq_decide_div_mod_eq]
theorem own_shr (x : Int64) (sh : Int32) (n : Nat) (hn : n < 64) (hs : (sh.toInt64.toUInt64 &&& Int64.toUInt64 63) = UInt64.ofNat n) : (XT.ushrL x sh).toBitVec.toNat = x.toBitVec.toNat / 2 ^ n := by
  unfold XT.ushrL
  rw [hs]
  show (x.toUInt64 >>> UInt64.ofNat n).toNat = _
  rw [UInt64.toNat_shiftRight, Nat.shiftRight_eq_div_pow]
  have : (UInt64.ofNat n).toNat % 64 = n := by
    rw [UInt64.toNat_ofNat']; omega
  rw [this]; rfl
theorem own_low8 (y : Int64) : (y.toInt32 &&& (255 : Int32)).toInt = ((y.toBitVec.toNat % 256 : Nat) : Int) := by
  rw [c_mask y.toInt32 255 8 (by decide) (by decide)]
  have h1 := c_l2i y
  have h2 : y.toInt = (y.toBitVec.toNat : Int).bmod (2 ^ 64) := BitVec.toInt_eq_toNat_bmod y.toBitVec
  have h3 := bm64 (y.toBitVec.toNat : Int)
  rw [← h2] at h3
  omega
theorem own_low1 (y : Int64) : (y &&& (1 : Int64)) = 0 ↔ ¬ y.toBitVec.toNat % 2 = 1 := by
  rw [← Int64.toBitVec_inj, Int64.toBitVec_and, ← BitVec.toNat_inj, BitVec.toNat_and]
  show y.toBitVec.toNat &&& 1 = 0 ↔ _
  rw [Nat.and_one_is_mod]; omega
theorem own_f3 (b : Int32) (n : Nat) (h : b.toInt = n) : (f3 b = 0 ∨ f3 b = 1) ∧ (f3 b = 1 ↔ own_stop n) := by
  have e0 := @Int32.lt_iff_toInt_lt b 32
  have e1 := @Int32.toInt_inj b 34
  have e2 := @Int32.toInt_inj b 92
  have e3 := @Int32.toInt_inj b 127
  have e4 := @Int32.toInt_inj b 194
  have e5 := @Int32.toInt_inj b 255
  rw [h] at e0 e1 e2 e3 e4 e5
  have k0 : (32 : Int32).toInt = 32 := by decide
  have k1 : (34 : Int32).toInt = 34 := by decide
  have k2 : (92 : Int32).toInt = 92 := by decide
  have k3 : (127 : Int32).toInt = 127 := by decide
  have k4 : (194 : Int32).toInt = 194 := by decide
  have k5 : (255 : Int32).toInt = 255 := by decide
  rw [k0] at e0; rw [k1] at e1; rw [k2] at e2; rw [k3] at e3; rw [k4] at e4; rw [k5] at e5
  unfold f3 own_stop
  simp only [e0, ← e1, ← e2, ← e3, ← e4, ← e5]
  have c0 : ((n : Int) < 32) ↔ n < 32 := by omega
  have c1 : ((n : Int) = 34) ↔ n = 34 := by omega
  have c2 : ((n : Int) = 92) ↔ n = 92 := by omega
  have c3 : ((n : Int) = 127) ↔ n = 127 := by omega
  have c4 : ((n : Int) = 194) ↔ n = 194 := by omega
  have c5 : ((n : Int) = 255) ↔ n = 255 := by omega
  simp only [c0, c1, c2, c3, c4, c5]
  by_cases h0 : n < 32
  · simp [h0]
  · by_cases h1 : n = 34
    · simp [h1]
    · by_cases h2 : n = 92
      · simp [h2]
      · by_cases h3 : n = 127
        · simp [h3]
        · by_cases h4 : n = 194
          · simp [h4]
          · by_cases h5 : n = 255
            · simp [h5]
            · simp [h0, h1, h2, h3, h4, h5]
theorem own_xorz (b c : Nat) : b ^^^ c = 0 ↔ b = c := by
  constructor
  · intro h
    have h2 : (b ^^^ c) ^^^ c = 0 ^^^ c := by rw [h]
    rwa [Nat.xor_assoc, Nat.xor_self, Nat.xor_zero, Nat.zero_xor] at h2
  · rintro rfl; exact Nat.xor_self b
theorem own_byteX (N C : Nat) (i : Nat) : (N ^^^ C) / 2 ^ i % 256 = (N / 2 ^ i % 256) ^^^ (C / 2 ^ i % 256) := by
  have h : (256 : Nat) = 2 ^ 8 := rfl
  rw [h, ← Nat.shiftRight_eq_div_pow, ← Nat.shiftRight_eq_div_pow, ← Nat.shiftRight_eq_div_pow, Nat.shiftRight_xor_distrib, Nat.xor_mod_two_pow]
theorem own_byteA (N C : Nat) (i : Nat) : (N &&& C) / 2 ^ i % 256 = (N / 2 ^ i % 256) &&& (C / 2 ^ i % 256) := by
  have h : (256 : Nat) = 2 ^ 8 := rfl
  rw [h, ← Nat.shiftRight_eq_div_pow, ← Nat.shiftRight_eq_div_pow, ← Nat.shiftRight_eq_div_pow, Nat.shiftRight_and_distrib, Nat.and_mod_two_pow]
/-- no borrow comes into byte k in any of the four differences -/
def own_NB (N k : Nat) : Prop := 0x2020202020202020 % 2 ^ (8 * k) ≤ N % 2 ^ (8 * k) ∧ 0x0101010101010101 % 2 ^ (8 * k) ≤ (N ^^^ 0x2222222222222222) % 2 ^ (8 * k) ∧ 0x0101010101010101 % 2 ^ (8 * k) ≤ (N ^^^ 0x5c5c5c5c5c5c5c5c) % 2 ^ (8 * k) ∧ 0x0101010101010101 % 2 ^ (8 * k) ≤ (N ^^^ 0xc2c2c2c2c2c2c2c2) % 2 ^ (8 * k)
theorem own_sub (X : BitVec 64) (C : Nat) (hC : C < 18446744073709551616) : (X - BitVec.ofNat 64 C).toNat = (18446744073709551616 - C + X.toNat) % 18446744073709551616 := by
  rw [BitVec.toNat_sub, BitVec.toNat_ofNat]
  simp only [Nat.reducePow]
  rw [Nat.mod_eq_of_lt hC]
theorem own_bits (x : Int64) (i : Nat) (hm : (BitVec.ofNat 64 0x8080808080808080).getLsbD i = true) (hi : i < 64) :
    (f2 x).toBitVec.getLsbD i = ((((x.toBitVec - BitVec.ofNat 64 0x2020202020202020).getLsbD i && !x.toBitVec.getLsbD i) || ((x.toBitVec &&& BitVec.ofNat 64 0x7f7f7f7f7f7f7f7f) + BitVec.ofNat 64 0x0101010101010101).getLsbD i) ||
      (((((x.toBitVec ^^^ BitVec.ofNat 64 0x2222222222222222) - BitVec.ofNat 64 0x0101010101010101).getLsbD i && !(x.toBitVec ^^^ BitVec.ofNat 64 0x2222222222222222).getLsbD i) ||
      (((x.toBitVec ^^^ BitVec.ofNat 64 0x5c5c5c5c5c5c5c5c) - BitVec.ofNat 64 0x0101010101010101).getLsbD i && !(x.toBitVec ^^^ BitVec.ofNat 64 0x5c5c5c5c5c5c5c5c).getLsbD i)) ||
      (((x.toBitVec ^^^ BitVec.ofNat 64 0xc2c2c2c2c2c2c2c2) - BitVec.ofNat 64 0x0101010101010101).getLsbD i && !(x.toBitVec ^^^ BitVec.ofNat 64 0xc2c2c2c2c2c2c2c2).getLsbD i))) := by
  have neg1 : ∀ Y : BitVec 64, (Y ^^^ (-1 : Int64).toBitVec).getLsbD i = !Y.getLsbD i := by
    intro Y
    have : (-1 : Int64).toBitVec = BitVec.allOnes 64 := by decide
    rw [this, BitVec.getLsbD_xor, BitVec.getLsbD_allOnes]
    simp [hi]
  have e1 : (f2 x).toBitVec = ((((x.toBitVec - BitVec.ofNat 64 0x2020202020202020) &&& (x.toBitVec ^^^ (-1 : Int64).toBitVec)) ||| ((x.toBitVec &&& BitVec.ofNat 64 0x7f7f7f7f7f7f7f7f) + BitVec.ofNat 64 0x0101010101010101)) |||
      (((((x.toBitVec ^^^ BitVec.ofNat 64 0x2222222222222222) - BitVec.ofNat 64 0x0101010101010101) &&& ((x.toBitVec ^^^ BitVec.ofNat 64 0x2222222222222222) ^^^ (-1 : Int64).toBitVec)) |||
      (((x.toBitVec ^^^ BitVec.ofNat 64 0x5c5c5c5c5c5c5c5c) - BitVec.ofNat 64 0x0101010101010101) &&& ((x.toBitVec ^^^ BitVec.ofNat 64 0x5c5c5c5c5c5c5c5c) ^^^ (-1 : Int64).toBitVec))) |||
      (((x.toBitVec ^^^ BitVec.ofNat 64 0xc2c2c2c2c2c2c2c2) - BitVec.ofNat 64 0x0101010101010101) &&& ((x.toBitVec ^^^ BitVec.ofNat 64 0xc2c2c2c2c2c2c2c2) ^^^ (-1 : Int64).toBitVec)))) &&& BitVec.ofNat 64 0x8080808080808080 := rfl
  rw [e1]
  simp only [BitVec.getLsbD_and, BitVec.getLsbD_or, neg1, hm, Bool.and_true]
theorem own_tbN (Y : BitVec 64) (n i : Nat) (h : Y.toNat = n) : Y.getLsbD i = decide (n / 2 ^ i % 2 = 1) := by rw [own_tb, h]
theorem own_xorN (X : BitVec 64) (C : Nat) (hC : C < 2 ^ 64) : (X ^^^ BitVec.ofNat 64 C).toNat = X.toNat ^^^ C := by rw [BitVec.toNat_xor, BitVec.toNat_ofNat, Nat.mod_eq_of_lt hC]
theorem own_subN (X : BitVec 64) (C F : Nat) (hF : F = 2 ^ 64) (hC : C < 2 ^ 64) : (X - BitVec.ofNat 64 C).toNat = (F - C + X.toNat) % F := by subst hF; rw [BitVec.toNat_sub, BitVec.toNat_ofNat, Nat.mod_eq_of_lt hC]
theorem own_addN (X : BitVec 64) (K C F : Nat) (hF : F = 2 ^ 64) (hK : K < 2 ^ 64) (hC : C < 2 ^ 64) : ((X &&& BitVec.ofNat 64 K) + BitVec.ofNat 64 C).toNat = ((X.toNat &&& K) + C) % F := by subst hF; rw [BitVec.toNat_add, BitVec.toNat_and, BitVec.toNat_ofNat, BitVec.toNat_ofNat, Nat.mod_eq_of_lt hC, Nat.mod_eq_of_lt hK]
theorem own_bool {r a1 b1 e y1 z1 y2 z2 y3 z3 : Prop} [Decidable r] [Decidable a1] [Decidable b1] [Decidable e] [Decidable y1] [Decidable z1] [Decidable y2] [Decidable z2] [Decidable y3] [Decidable z3]
    (h : decide r = (((decide a1 && !decide b1) || decide e) || (((decide y1 && !decide z1) || (decide y2 && !decide z2)) || (decide y3 && !decide z3)))) : r ↔ (((a1 ∧ ¬ b1) ∨ e) ∨ (((y1 ∧ ¬ z1) ∨ (y2 ∧ ¬ z2)) ∨ (y3 ∧ ¬ z3))) := by
  rw [← decide_eq_true_iff (p := r), h]
  simp only [Bool.or_eq_true, Bool.and_eq_true, Bool.not_eq_true', decide_eq_true_eq, decide_eq_false_iff_not]
theorem own_rbitG (x : Int64) (i F C20 C01 K7 A1 A2 A3 : Nat) (hF : F = 2 ^ 64) (l1 : C20 < 2 ^ 64) (l2 : C01 < 2 ^ 64) (l3 : K7 < 2 ^ 64) (l4 : A1 < 2 ^ 64) (l5 : A2 < 2 ^ 64) (l6 : A3 < 2 ^ 64)
    (hb : (f2 x).toBitVec.getLsbD i = ((((x.toBitVec - BitVec.ofNat 64 C20).getLsbD i && !x.toBitVec.getLsbD i) || ((x.toBitVec &&& BitVec.ofNat 64 K7) + BitVec.ofNat 64 C01).getLsbD i) ||
      (((((x.toBitVec ^^^ BitVec.ofNat 64 A1) - BitVec.ofNat 64 C01).getLsbD i && !(x.toBitVec ^^^ BitVec.ofNat 64 A1).getLsbD i) ||
      (((x.toBitVec ^^^ BitVec.ofNat 64 A2) - BitVec.ofNat 64 C01).getLsbD i && !(x.toBitVec ^^^ BitVec.ofNat 64 A2).getLsbD i)) ||
      (((x.toBitVec ^^^ BitVec.ofNat 64 A3) - BitVec.ofNat 64 C01).getLsbD i && !(x.toBitVec ^^^ BitVec.ofNat 64 A3).getLsbD i)))) :
    ((f2 x).toBitVec.toNat / 2 ^ i % 2 = 1) ↔ ((((F - C20 + x.toBitVec.toNat) % F / 2 ^ i % 2 = 1 ∧ ¬ x.toBitVec.toNat / 2 ^ i % 2 = 1) ∨ ((x.toBitVec.toNat &&& K7) + C01) % F / 2 ^ i % 2 = 1) ∨
      ((((F - C01 + (x.toBitVec.toNat ^^^ A1)) % F / 2 ^ i % 2 = 1 ∧ ¬ (x.toBitVec.toNat ^^^ A1) / 2 ^ i % 2 = 1) ∨ ((F - C01 + (x.toBitVec.toNat ^^^ A2)) % F / 2 ^ i % 2 = 1 ∧ ¬ (x.toBitVec.toNat ^^^ A2) / 2 ^ i % 2 = 1)) ∨
      ((F - C01 + (x.toBitVec.toNat ^^^ A3)) % F / 2 ^ i % 2 = 1 ∧ ¬ (x.toBitVec.toNat ^^^ A3) / 2 ^ i % 2 = 1))) := by
  rw [own_tbN _ _ i (own_subN x.toBitVec C20 F hF l1), own_tbN _ _ i (own_addN x.toBitVec K7 C01 F hF l3 l2),
    own_tbN _ _ i ((own_subN (x.toBitVec ^^^ BitVec.ofNat 64 A1) C01 F hF l2).trans (by rw [own_xorN x.toBitVec A1 l4])), own_tbN _ _ i (own_xorN x.toBitVec A1 l4),
    own_tbN _ _ i ((own_subN (x.toBitVec ^^^ BitVec.ofNat 64 A2) C01 F hF l2).trans (by rw [own_xorN x.toBitVec A2 l5])), own_tbN _ _ i (own_xorN x.toBitVec A2 l5),
    own_tbN _ _ i ((own_subN (x.toBitVec ^^^ BitVec.ofNat 64 A3) C01 F hF l2).trans (by rw [own_xorN x.toBitVec A3 l6])), own_tbN _ _ i (own_xorN x.toBitVec A3 l6),
    own_tbN x.toBitVec _ i rfl, own_tbN (f2 x).toBitVec _ i rfl] at hb
  exact own_bool hb
theorem own_s32_0 (N : Nat) (hN : N < 18446744073709551616) :
    (N / 1 % 256 < 32 → (18446744073709551616 - 2314885530818453536 + N) % 18446744073709551616 / 128 % 2 = 1 ∧ ¬ N / 128 % 2 = 1) ∧
    (2314885530818453536 % 1 ≤ N % 1 → (18446744073709551616 - 2314885530818453536 + N) % 18446744073709551616 / 128 % 2 = 1 → ¬ N / 128 % 2 = 1 → N / 1 % 256 < 32) ∧
    (2314885530818453536 % 1 ≤ N % 1 → ¬ N / 1 % 256 < 32 → 2314885530818453536 % 256 ≤ N % 256) := by
  refine ⟨fun h => ?_, fun h1 h2 h3 => ?_, fun h1 h2 => ?_⟩ <;> omega
theorem own_s32_1 (N : Nat) (hN : N < 18446744073709551616) :
    (N / 256 % 256 < 32 → (18446744073709551616 - 2314885530818453536 + N) % 18446744073709551616 / 32768 % 2 = 1 ∧ ¬ N / 32768 % 2 = 1) ∧
    (2314885530818453536 % 256 ≤ N % 256 → (18446744073709551616 - 2314885530818453536 + N) % 18446744073709551616 / 32768 % 2 = 1 → ¬ N / 32768 % 2 = 1 → N / 256 % 256 < 32) ∧
    (2314885530818453536 % 256 ≤ N % 256 → ¬ N / 256 % 256 < 32 → 2314885530818453536 % 65536 ≤ N % 65536) := by
  refine ⟨fun h => ?_, fun h1 h2 h3 => ?_, fun h1 h2 => ?_⟩ <;> omega
theorem own_s32_2 (N : Nat) (hN : N < 18446744073709551616) :
    (N / 65536 % 256 < 32 → (18446744073709551616 - 2314885530818453536 + N) % 18446744073709551616 / 8388608 % 2 = 1 ∧ ¬ N / 8388608 % 2 = 1) ∧
    (2314885530818453536 % 65536 ≤ N % 65536 → (18446744073709551616 - 2314885530818453536 + N) % 18446744073709551616 / 8388608 % 2 = 1 → ¬ N / 8388608 % 2 = 1 → N / 65536 % 256 < 32) ∧
    (2314885530818453536 % 65536 ≤ N % 65536 → ¬ N / 65536 % 256 < 32 → 2314885530818453536 % 16777216 ≤ N % 16777216) := by
  refine ⟨fun h => ?_, fun h1 h2 h3 => ?_, fun h1 h2 => ?_⟩ <;> omega
theorem own_s32_3 (N : Nat) (hN : N < 18446744073709551616) :
    (N / 16777216 % 256 < 32 → (18446744073709551616 - 2314885530818453536 + N) % 18446744073709551616 / 2147483648 % 2 = 1 ∧ ¬ N / 2147483648 % 2 = 1) ∧
    (2314885530818453536 % 16777216 ≤ N % 16777216 → (18446744073709551616 - 2314885530818453536 + N) % 18446744073709551616 / 2147483648 % 2 = 1 → ¬ N / 2147483648 % 2 = 1 → N / 16777216 % 256 < 32) ∧
    (2314885530818453536 % 16777216 ≤ N % 16777216 → ¬ N / 16777216 % 256 < 32 → 2314885530818453536 % 4294967296 ≤ N % 4294967296) := by
  refine ⟨fun h => ?_, fun h1 h2 h3 => ?_, fun h1 h2 => ?_⟩ <;> omega
theorem own_s32_4 (N : Nat) (hN : N < 18446744073709551616) :
    (N / 4294967296 % 256 < 32 → (18446744073709551616 - 2314885530818453536 + N) % 18446744073709551616 / 549755813888 % 2 = 1 ∧ ¬ N / 549755813888 % 2 = 1) ∧
    (2314885530818453536 % 4294967296 ≤ N % 4294967296 → (18446744073709551616 - 2314885530818453536 + N) % 18446744073709551616 / 549755813888 % 2 = 1 → ¬ N / 549755813888 % 2 = 1 → N / 4294967296 % 256 < 32) ∧
    (2314885530818453536 % 4294967296 ≤ N % 4294967296 → ¬ N / 4294967296 % 256 < 32 → 2314885530818453536 % 1099511627776 ≤ N % 1099511627776) := by
  refine ⟨fun h => ?_, fun h1 h2 h3 => ?_, fun h1 h2 => ?_⟩ <;> omega
theorem own_s32_5 (N : Nat) (hN : N < 18446744073709551616) :
    (N / 1099511627776 % 256 < 32 → (18446744073709551616 - 2314885530818453536 + N) % 18446744073709551616 / 140737488355328 % 2 = 1 ∧ ¬ N / 140737488355328 % 2 = 1) ∧
    (2314885530818453536 % 1099511627776 ≤ N % 1099511627776 → (18446744073709551616 - 2314885530818453536 + N) % 18446744073709551616 / 140737488355328 % 2 = 1 → ¬ N / 140737488355328 % 2 = 1 → N / 1099511627776 % 256 < 32) ∧
    (2314885530818453536 % 1099511627776 ≤ N % 1099511627776 → ¬ N / 1099511627776 % 256 < 32 → 2314885530818453536 % 281474976710656 ≤ N % 281474976710656) := by
  refine ⟨fun h => ?_, fun h1 h2 h3 => ?_, fun h1 h2 => ?_⟩ <;> omega
theorem own_s32_6 (N : Nat) (hN : N < 18446744073709551616) :
    (N / 281474976710656 % 256 < 32 → (18446744073709551616 - 2314885530818453536 + N) % 18446744073709551616 / 36028797018963968 % 2 = 1 ∧ ¬ N / 36028797018963968 % 2 = 1) ∧
    (2314885530818453536 % 281474976710656 ≤ N % 281474976710656 → (18446744073709551616 - 2314885530818453536 + N) % 18446744073709551616 / 36028797018963968 % 2 = 1 → ¬ N / 36028797018963968 % 2 = 1 → N / 281474976710656 % 256 < 32) ∧
    (2314885530818453536 % 281474976710656 ≤ N % 281474976710656 → ¬ N / 281474976710656 % 256 < 32 → 2314885530818453536 % 72057594037927936 ≤ N % 72057594037927936) := by
  refine ⟨fun h => ?_, fun h1 h2 h3 => ?_, fun h1 h2 => ?_⟩ <;> omega
theorem own_s32_7 (N : Nat) (hN : N < 18446744073709551616) :
    (N / 72057594037927936 % 256 < 32 → (18446744073709551616 - 2314885530818453536 + N) % 18446744073709551616 / 9223372036854775808 % 2 = 1 ∧ ¬ N / 9223372036854775808 % 2 = 1) ∧
    (2314885530818453536 % 72057594037927936 ≤ N % 72057594037927936 → (18446744073709551616 - 2314885530818453536 + N) % 18446744073709551616 / 9223372036854775808 % 2 = 1 → ¬ N / 9223372036854775808 % 2 = 1 → N / 72057594037927936 % 256 < 32) ∧
    (2314885530818453536 % 72057594037927936 ≤ N % 72057594037927936 → ¬ N / 72057594037927936 % 256 < 32 → 2314885530818453536 % 18446744073709551616 ≤ N % 18446744073709551616) := by
  refine ⟨fun h => ?_, fun h1 h2 h3 => ?_, fun h1 h2 => ?_⟩ <;> omega
theorem own_s1_0 (N : Nat) (hN : N < 18446744073709551616) :
    (N / 1 % 256 < 1 → (18446744073709551616 - 72340172838076673 + N) % 18446744073709551616 / 128 % 2 = 1 ∧ ¬ N / 128 % 2 = 1) ∧
    (72340172838076673 % 1 ≤ N % 1 → (18446744073709551616 - 72340172838076673 + N) % 18446744073709551616 / 128 % 2 = 1 → ¬ N / 128 % 2 = 1 → N / 1 % 256 < 1) ∧
    (72340172838076673 % 1 ≤ N % 1 → ¬ N / 1 % 256 < 1 → 72340172838076673 % 256 ≤ N % 256) := by
  refine ⟨fun h => ?_, fun h1 h2 h3 => ?_, fun h1 h2 => ?_⟩ <;> omega
theorem own_s1_1 (N : Nat) (hN : N < 18446744073709551616) :
    (N / 256 % 256 < 1 → (18446744073709551616 - 72340172838076673 + N) % 18446744073709551616 / 32768 % 2 = 1 ∧ ¬ N / 32768 % 2 = 1) ∧
    (72340172838076673 % 256 ≤ N % 256 → (18446744073709551616 - 72340172838076673 + N) % 18446744073709551616 / 32768 % 2 = 1 → ¬ N / 32768 % 2 = 1 → N / 256 % 256 < 1) ∧
    (72340172838076673 % 256 ≤ N % 256 → ¬ N / 256 % 256 < 1 → 72340172838076673 % 65536 ≤ N % 65536) := by
  refine ⟨fun h => ?_, fun h1 h2 h3 => ?_, fun h1 h2 => ?_⟩ <;> omega
theorem own_s1_2 (N : Nat) (hN : N < 18446744073709551616) :
    (N / 65536 % 256 < 1 → (18446744073709551616 - 72340172838076673 + N) % 18446744073709551616 / 8388608 % 2 = 1 ∧ ¬ N / 8388608 % 2 = 1) ∧
    (72340172838076673 % 65536 ≤ N % 65536 → (18446744073709551616 - 72340172838076673 + N) % 18446744073709551616 / 8388608 % 2 = 1 → ¬ N / 8388608 % 2 = 1 → N / 65536 % 256 < 1) ∧
    (72340172838076673 % 65536 ≤ N % 65536 → ¬ N / 65536 % 256 < 1 → 72340172838076673 % 16777216 ≤ N % 16777216) := by
  refine ⟨fun h => ?_, fun h1 h2 h3 => ?_, fun h1 h2 => ?_⟩ <;> omega
theorem own_s1_3 (N : Nat) (hN : N < 18446744073709551616) :
    (N / 16777216 % 256 < 1 → (18446744073709551616 - 72340172838076673 + N) % 18446744073709551616 / 2147483648 % 2 = 1 ∧ ¬ N / 2147483648 % 2 = 1) ∧
    (72340172838076673 % 16777216 ≤ N % 16777216 → (18446744073709551616 - 72340172838076673 + N) % 18446744073709551616 / 2147483648 % 2 = 1 → ¬ N / 2147483648 % 2 = 1 → N / 16777216 % 256 < 1) ∧
    (72340172838076673 % 16777216 ≤ N % 16777216 → ¬ N / 16777216 % 256 < 1 → 72340172838076673 % 4294967296 ≤ N % 4294967296) := by
  refine ⟨fun h => ?_, fun h1 h2 h3 => ?_, fun h1 h2 => ?_⟩ <;> omega
theorem own_s1_4 (N : Nat) (hN : N < 18446744073709551616) :
    (N / 4294967296 % 256 < 1 → (18446744073709551616 - 72340172838076673 + N) % 18446744073709551616 / 549755813888 % 2 = 1 ∧ ¬ N / 549755813888 % 2 = 1) ∧
    (72340172838076673 % 4294967296 ≤ N % 4294967296 → (18446744073709551616 - 72340172838076673 + N) % 18446744073709551616 / 549755813888 % 2 = 1 → ¬ N / 549755813888 % 2 = 1 → N / 4294967296 % 256 < 1) ∧
    (72340172838076673 % 4294967296 ≤ N % 4294967296 → ¬ N / 4294967296 % 256 < 1 → 72340172838076673 % 1099511627776 ≤ N % 1099511627776) := by
  refine ⟨fun h => ?_, fun h1 h2 h3 => ?_, fun h1 h2 => ?_⟩ <;> omega
theorem own_s1_5 (N : Nat) (hN : N < 18446744073709551616) :
    (N / 1099511627776 % 256 < 1 → (18446744073709551616 - 72340172838076673 + N) % 18446744073709551616 / 140737488355328 % 2 = 1 ∧ ¬ N / 140737488355328 % 2 = 1) ∧
    (72340172838076673 % 1099511627776 ≤ N % 1099511627776 → (18446744073709551616 - 72340172838076673 + N) % 18446744073709551616 / 140737488355328 % 2 = 1 → ¬ N / 140737488355328 % 2 = 1 → N / 1099511627776 % 256 < 1) ∧
    (72340172838076673 % 1099511627776 ≤ N % 1099511627776 → ¬ N / 1099511627776 % 256 < 1 → 72340172838076673 % 281474976710656 ≤ N % 281474976710656) := by
  refine ⟨fun h => ?_, fun h1 h2 h3 => ?_, fun h1 h2 => ?_⟩ <;> omega
theorem own_s1_6 (N : Nat) (hN : N < 18446744073709551616) :
    (N / 281474976710656 % 256 < 1 → (18446744073709551616 - 72340172838076673 + N) % 18446744073709551616 / 36028797018963968 % 2 = 1 ∧ ¬ N / 36028797018963968 % 2 = 1) ∧
    (72340172838076673 % 281474976710656 ≤ N % 281474976710656 → (18446744073709551616 - 72340172838076673 + N) % 18446744073709551616 / 36028797018963968 % 2 = 1 → ¬ N / 36028797018963968 % 2 = 1 → N / 281474976710656 % 256 < 1) ∧
    (72340172838076673 % 281474976710656 ≤ N % 281474976710656 → ¬ N / 281474976710656 % 256 < 1 → 72340172838076673 % 72057594037927936 ≤ N % 72057594037927936) := by
  refine ⟨fun h => ?_, fun h1 h2 h3 => ?_, fun h1 h2 => ?_⟩ <;> omega
theorem own_s1_7 (N : Nat) (hN : N < 18446744073709551616) :
    (N / 72057594037927936 % 256 < 1 → (18446744073709551616 - 72340172838076673 + N) % 18446744073709551616 / 9223372036854775808 % 2 = 1 ∧ ¬ N / 9223372036854775808 % 2 = 1) ∧
    (72340172838076673 % 72057594037927936 ≤ N % 72057594037927936 → (18446744073709551616 - 72340172838076673 + N) % 18446744073709551616 / 9223372036854775808 % 2 = 1 → ¬ N / 9223372036854775808 % 2 = 1 → N / 72057594037927936 % 256 < 1) ∧
    (72340172838076673 % 72057594037927936 ≤ N % 72057594037927936 → ¬ N / 72057594037927936 % 256 < 1 → 72340172838076673 % 18446744073709551616 ≤ N % 18446744073709551616) := by
  refine ⟨fun h => ?_, fun h1 h2 h3 => ?_, fun h1 h2 => ?_⟩ <;> omega
theorem own_e_0 (M : Nat) (h1 : M ≤ 9187201950435737471) (h2 : M % 1 ≤ 0) (h3 : M / 1 % 256 < 128) : (M + 72340172838076673) % 18446744073709551616 / 128 % 2 = 1 ↔ M / 1 % 256 = 127 := by
  omega
theorem own_e_1 (M : Nat) (h1 : M ≤ 9187201950435737471) (h2 : M % 256 ≤ 127) (h3 : M / 256 % 256 < 128) : (M + 72340172838076673) % 18446744073709551616 / 32768 % 2 = 1 ↔ M / 256 % 256 = 127 := by
  omega
theorem own_e_2 (M : Nat) (h1 : M ≤ 9187201950435737471) (h2 : M % 65536 ≤ 32639) (h3 : M / 65536 % 256 < 128) : (M + 72340172838076673) % 18446744073709551616 / 8388608 % 2 = 1 ↔ M / 65536 % 256 = 127 := by
  omega
theorem own_e_3 (M : Nat) (h1 : M ≤ 9187201950435737471) (h2 : M % 16777216 ≤ 8355711) (h3 : M / 16777216 % 256 < 128) : (M + 72340172838076673) % 18446744073709551616 / 2147483648 % 2 = 1 ↔ M / 16777216 % 256 = 127 := by
  omega
theorem own_e_4 (M : Nat) (h1 : M ≤ 9187201950435737471) (h2 : M % 4294967296 ≤ 2139062143) (h3 : M / 4294967296 % 256 < 128) : (M + 72340172838076673) % 18446744073709551616 / 549755813888 % 2 = 1 ↔ M / 4294967296 % 256 = 127 := by
  omega
theorem own_e_5 (M : Nat) (h1 : M ≤ 9187201950435737471) (h2 : M % 1099511627776 ≤ 547599908735) (h3 : M / 1099511627776 % 256 < 128) : (M + 72340172838076673) % 18446744073709551616 / 140737488355328 % 2 = 1 ↔ M / 1099511627776 % 256 = 127 := by
  omega
theorem own_e_6 (M : Nat) (h1 : M ≤ 9187201950435737471) (h2 : M % 281474976710656 ≤ 140185576636287) (h3 : M / 281474976710656 % 256 < 128) : (M + 72340172838076673) % 18446744073709551616 / 36028797018963968 % 2 = 1 ↔ M / 281474976710656 % 256 = 127 := by
  omega
theorem own_e_7 (M : Nat) (h1 : M ≤ 9187201950435737471) (h2 : M % 72057594037927936 ≤ 35887507618889599) (h3 : M / 72057594037927936 % 256 < 128) : (M + 72340172838076673) % 18446744073709551616 / 9223372036854775808 % 2 = 1 ↔ M / 72057594037927936 % 256 = 127 := by
  omega
theorem own_nat_0 (N Rr Y1 Y2 Y3 M x1 x2 x3 : Nat) (hN : N < 18446744073709551616) (h1 : Y1 < 18446744073709551616) (h2 : Y2 < 18446744073709551616) (h3 : Y3 < 18446744073709551616)
    (hR : (Rr / 128 % 2 = 1) ↔ ((((18446744073709551616 - 2314885530818453536 + N) % 18446744073709551616 / 128 % 2 = 1 ∧ ¬ N / 128 % 2 = 1) ∨ (M + 72340172838076673) % 18446744073709551616 / 128 % 2 = 1) ∨ ((((18446744073709551616 - 72340172838076673 + Y1) % 18446744073709551616 / 128 % 2 = 1 ∧ ¬ Y1 / 128 % 2 = 1) ∨ ((18446744073709551616 - 72340172838076673 + Y2) % 18446744073709551616 / 128 % 2 = 1 ∧ ¬ Y2 / 128 % 2 = 1)) ∨ ((18446744073709551616 - 72340172838076673 + Y3) % 18446744073709551616 / 128 % 2 = 1 ∧ ¬ Y3 / 128 % 2 = 1))))
    (y1 : Y1 / 1 % 256 = x1) (y2 : Y2 / 1 % 256 = x2) (y3 : Y3 / 1 % 256 = x3) (z1 : x1 = 0 ↔ N / 1 % 256 = 34) (z2 : x2 = 0 ↔ N / 1 % 256 = 92) (z3 : x3 = 0 ↔ N / 1 % 256 = 194)
    (m0 : M / 1 % 256 = N / 1 % 256 % 128) (m1 : M ≤ 9187201950435737471) (m2 : M % 1 ≤ 0) :
    (own_stop (N / 1 % 256) → Rr / 128 % 2 = 1) ∧ ((2314885530818453536 % 1 ≤ N % 1 ∧ 72340172838076673 % 1 ≤ Y1 % 1 ∧ 72340172838076673 % 1 ≤ Y2 % 1 ∧ 72340172838076673 % 1 ≤ Y3 % 1) → Rr / 128 % 2 = 1 → own_stop (N / 1 % 256)) ∧
    ((2314885530818453536 % 1 ≤ N % 1 ∧ 72340172838076673 % 1 ≤ Y1 % 1 ∧ 72340172838076673 % 1 ≤ Y2 % 1 ∧ 72340172838076673 % 1 ≤ Y3 % 1) → ¬ own_stop (N / 1 % 256) → (2314885530818453536 % 256 ≤ N % 256 ∧ 72340172838076673 % 256 ≤ Y1 % 256 ∧ 72340172838076673 % 256 ≤ Y2 % 256 ∧ 72340172838076673 % 256 ≤ Y3 % 256)) := by
  obtain ⟨a0, b0, d0⟩ := own_s32_0 N hN
  obtain ⟨a1, b1, d1⟩ := own_s1_0 Y1 h1
  obtain ⟨a2, b2, d2⟩ := own_s1_0 Y2 h2
  obtain ⟨a3, b3, d3⟩ := own_s1_0 Y3 h3
  have e4 := own_e_0 M m1 m2 (by rw [m0]; exact Nat.mod_lt _ (by decide))
  rw [y1] at a1 b1 d1
  rw [y2] at a2 b2 d2
  rw [y3] at a3 b3 d3
  rw [m0] at e4
  rw [hR]
  have hb : N / 1 % 256 < 256 := Nat.mod_lt _ (by decide)
  generalize N / 1 % 256 = b at *
  unfold own_stop
  refine ⟨?_, ?_, ?_⟩
  · rintro (h | h | h | h | h | h)
    · exact Or.inl (Or.inl (a0 h))
    · exact Or.inr (Or.inl (Or.inl (a1 (by rw [z1.mpr h]; decide))))
    · exact Or.inr (Or.inl (Or.inr (a2 (by rw [z2.mpr h]; decide))))
    · exact Or.inl (Or.inr (e4.mpr (by rw [h])))
    · exact Or.inr (Or.inr (a3 (by rw [z3.mpr h]; decide)))
    · exact Or.inl (Or.inr (e4.mpr (by rw [h])))
  · rintro ⟨n0, n1, n2, n3⟩ ((⟨u, v⟩ | u) | ((⟨u, v⟩ | ⟨u, v⟩) | ⟨u, v⟩))
    · exact Or.inl (b0 n0 u v)
    · have := e4.mp u
      have : b = 127 ∨ b = 255 := by omega
      rcases this with h | h
      · exact Or.inr (Or.inr (Or.inr (Or.inl h)))
      · exact Or.inr (Or.inr (Or.inr (Or.inr (Or.inr h))))
    · exact Or.inr (Or.inl (z1.mp (Nat.lt_one_iff.mp (b1 n1 u v))))
    · exact Or.inr (Or.inr (Or.inl (z2.mp (Nat.lt_one_iff.mp (b2 n2 u v)))))
    · exact Or.inr (Or.inr (Or.inr (Or.inr (Or.inl (z3.mp (Nat.lt_one_iff.mp (b3 n3 u v)))))))
  · rintro ⟨n0, n1, n2, n3⟩ h
    refine ⟨d0 n0 (fun q => h (Or.inl q)), d1 n1 (fun q => h (Or.inr (Or.inl (z1.mp (Nat.lt_one_iff.mp q))))), d2 n2 (fun q => h (Or.inr (Or.inr (Or.inl (z2.mp (Nat.lt_one_iff.mp q)))))), d3 n3 (fun q => h (Or.inr (Or.inr (Or.inr (Or.inr (Or.inl (z3.mp (Nat.lt_one_iff.mp q))))))))⟩
theorem own_key_0 (x : Int64) : (own_stop (x.toBitVec.toNat / 1 % 256) → (f2 x).toBitVec.toNat / 128 % 2 = 1) ∧ (own_NB x.toBitVec.toNat 0 → (f2 x).toBitVec.toNat / 128 % 2 = 1 → own_stop (x.toBitVec.toNat / 1 % 256)) ∧ (own_NB x.toBitVec.toNat 0 → ¬ own_stop (x.toBitVec.toNat / 1 % 256) → own_NB x.toBitVec.toNat 1) := by
  have hN : x.toBitVec.toNat < 18446744073709551616 := x.toBitVec.isLt
  have hY : ∀ C : Nat, C < 18446744073709551616 → x.toBitVec.toNat ^^^ C < 18446744073709551616 := fun C hC => Nat.xor_lt_two_pow (n := 64) hN hC
  have hR := own_rbitG x 7 18446744073709551616 0x2020202020202020 0x0101010101010101 0x7f7f7f7f7f7f7f7f 0x2222222222222222 0x5c5c5c5c5c5c5c5c 0xc2c2c2c2c2c2c2c2 (by decide) (by decide) (by decide) (by decide) (by decide) (by decide) (by decide) (own_bits x 7 (by decide) (by decide))
  exact own_nat_0 x.toBitVec.toNat (f2 x).toBitVec.toNat (x.toBitVec.toNat ^^^ 0x2222222222222222) (x.toBitVec.toNat ^^^ 0x5c5c5c5c5c5c5c5c) (x.toBitVec.toNat ^^^ 0xc2c2c2c2c2c2c2c2) (x.toBitVec.toNat &&& 0x7f7f7f7f7f7f7f7f) _ _ _ hN (hY _ (by decide)) (hY _ (by decide)) (hY _ (by decide)) hR
    (own_byteX _ 0x2222222222222222 0) (own_byteX _ 0x5c5c5c5c5c5c5c5c 0) (own_byteX _ 0xc2c2c2c2c2c2c2c2 0) (own_xorz _ 34) (own_xorz _ 92) (own_xorz _ 194)
    ((own_byteA _ 0x7f7f7f7f7f7f7f7f 0).trans (Nat.and_two_pow_sub_one_eq_mod _ 7)) Nat.and_le_right (by rw [show (1 : Nat) = 2 ^ 0 from rfl, Nat.and_mod_two_pow]; exact Nat.and_le_right)
theorem own_nat_1 (N Rr Y1 Y2 Y3 M x1 x2 x3 : Nat) (hN : N < 18446744073709551616) (h1 : Y1 < 18446744073709551616) (h2 : Y2 < 18446744073709551616) (h3 : Y3 < 18446744073709551616)
    (hR : (Rr / 32768 % 2 = 1) ↔ ((((18446744073709551616 - 2314885530818453536 + N) % 18446744073709551616 / 32768 % 2 = 1 ∧ ¬ N / 32768 % 2 = 1) ∨ (M + 72340172838076673) % 18446744073709551616 / 32768 % 2 = 1) ∨ ((((18446744073709551616 - 72340172838076673 + Y1) % 18446744073709551616 / 32768 % 2 = 1 ∧ ¬ Y1 / 32768 % 2 = 1) ∨ ((18446744073709551616 - 72340172838076673 + Y2) % 18446744073709551616 / 32768 % 2 = 1 ∧ ¬ Y2 / 32768 % 2 = 1)) ∨ ((18446744073709551616 - 72340172838076673 + Y3) % 18446744073709551616 / 32768 % 2 = 1 ∧ ¬ Y3 / 32768 % 2 = 1))))
    (y1 : Y1 / 256 % 256 = x1) (y2 : Y2 / 256 % 256 = x2) (y3 : Y3 / 256 % 256 = x3) (z1 : x1 = 0 ↔ N / 256 % 256 = 34) (z2 : x2 = 0 ↔ N / 256 % 256 = 92) (z3 : x3 = 0 ↔ N / 256 % 256 = 194)
    (m0 : M / 256 % 256 = N / 256 % 256 % 128) (m1 : M ≤ 9187201950435737471) (m2 : M % 256 ≤ 127) :
    (own_stop (N / 256 % 256) → Rr / 32768 % 2 = 1) ∧ ((2314885530818453536 % 256 ≤ N % 256 ∧ 72340172838076673 % 256 ≤ Y1 % 256 ∧ 72340172838076673 % 256 ≤ Y2 % 256 ∧ 72340172838076673 % 256 ≤ Y3 % 256) → Rr / 32768 % 2 = 1 → own_stop (N / 256 % 256)) ∧
    ((2314885530818453536 % 256 ≤ N % 256 ∧ 72340172838076673 % 256 ≤ Y1 % 256 ∧ 72340172838076673 % 256 ≤ Y2 % 256 ∧ 72340172838076673 % 256 ≤ Y3 % 256) → ¬ own_stop (N / 256 % 256) → (2314885530818453536 % 65536 ≤ N % 65536 ∧ 72340172838076673 % 65536 ≤ Y1 % 65536 ∧ 72340172838076673 % 65536 ≤ Y2 % 65536 ∧ 72340172838076673 % 65536 ≤ Y3 % 65536)) := by
  obtain ⟨a0, b0, d0⟩ := own_s32_1 N hN
  obtain ⟨a1, b1, d1⟩ := own_s1_1 Y1 h1
  obtain ⟨a2, b2, d2⟩ := own_s1_1 Y2 h2
  obtain ⟨a3, b3, d3⟩ := own_s1_1 Y3 h3
  have e4 := own_e_1 M m1 m2 (by rw [m0]; exact Nat.mod_lt _ (by decide))
  rw [y1] at a1 b1 d1
  rw [y2] at a2 b2 d2
  rw [y3] at a3 b3 d3
  rw [m0] at e4
  rw [hR]
  have hb : N / 256 % 256 < 256 := Nat.mod_lt _ (by decide)
  generalize N / 256 % 256 = b at *
  unfold own_stop
  refine ⟨?_, ?_, ?_⟩
  · rintro (h | h | h | h | h | h)
    · exact Or.inl (Or.inl (a0 h))
    · exact Or.inr (Or.inl (Or.inl (a1 (by rw [z1.mpr h]; decide))))
    · exact Or.inr (Or.inl (Or.inr (a2 (by rw [z2.mpr h]; decide))))
    · exact Or.inl (Or.inr (e4.mpr (by rw [h])))
    · exact Or.inr (Or.inr (a3 (by rw [z3.mpr h]; decide)))
    · exact Or.inl (Or.inr (e4.mpr (by rw [h])))
  · rintro ⟨n0, n1, n2, n3⟩ ((⟨u, v⟩ | u) | ((⟨u, v⟩ | ⟨u, v⟩) | ⟨u, v⟩))
    · exact Or.inl (b0 n0 u v)
    · have := e4.mp u
      have : b = 127 ∨ b = 255 := by omega
      rcases this with h | h
      · exact Or.inr (Or.inr (Or.inr (Or.inl h)))
      · exact Or.inr (Or.inr (Or.inr (Or.inr (Or.inr h))))
    · exact Or.inr (Or.inl (z1.mp (Nat.lt_one_iff.mp (b1 n1 u v))))
    · exact Or.inr (Or.inr (Or.inl (z2.mp (Nat.lt_one_iff.mp (b2 n2 u v)))))
    · exact Or.inr (Or.inr (Or.inr (Or.inr (Or.inl (z3.mp (Nat.lt_one_iff.mp (b3 n3 u v)))))))
  · rintro ⟨n0, n1, n2, n3⟩ h
    refine ⟨d0 n0 (fun q => h (Or.inl q)), d1 n1 (fun q => h (Or.inr (Or.inl (z1.mp (Nat.lt_one_iff.mp q))))), d2 n2 (fun q => h (Or.inr (Or.inr (Or.inl (z2.mp (Nat.lt_one_iff.mp q)))))), d3 n3 (fun q => h (Or.inr (Or.inr (Or.inr (Or.inr (Or.inl (z3.mp (Nat.lt_one_iff.mp q))))))))⟩
theorem own_key_1 (x : Int64) : (own_stop (x.toBitVec.toNat / 256 % 256) → (f2 x).toBitVec.toNat / 32768 % 2 = 1) ∧ (own_NB x.toBitVec.toNat 1 → (f2 x).toBitVec.toNat / 32768 % 2 = 1 → own_stop (x.toBitVec.toNat / 256 % 256)) ∧ (own_NB x.toBitVec.toNat 1 → ¬ own_stop (x.toBitVec.toNat / 256 % 256) → own_NB x.toBitVec.toNat 2) := by
  have hN : x.toBitVec.toNat < 18446744073709551616 := x.toBitVec.isLt
  have hY : ∀ C : Nat, C < 18446744073709551616 → x.toBitVec.toNat ^^^ C < 18446744073709551616 := fun C hC => Nat.xor_lt_two_pow (n := 64) hN hC
  have hR := own_rbitG x 15 18446744073709551616 0x2020202020202020 0x0101010101010101 0x7f7f7f7f7f7f7f7f 0x2222222222222222 0x5c5c5c5c5c5c5c5c 0xc2c2c2c2c2c2c2c2 (by decide) (by decide) (by decide) (by decide) (by decide) (by decide) (by decide) (own_bits x 15 (by decide) (by decide))
  exact own_nat_1 x.toBitVec.toNat (f2 x).toBitVec.toNat (x.toBitVec.toNat ^^^ 0x2222222222222222) (x.toBitVec.toNat ^^^ 0x5c5c5c5c5c5c5c5c) (x.toBitVec.toNat ^^^ 0xc2c2c2c2c2c2c2c2) (x.toBitVec.toNat &&& 0x7f7f7f7f7f7f7f7f) _ _ _ hN (hY _ (by decide)) (hY _ (by decide)) (hY _ (by decide)) hR
    (own_byteX _ 0x2222222222222222 8) (own_byteX _ 0x5c5c5c5c5c5c5c5c 8) (own_byteX _ 0xc2c2c2c2c2c2c2c2 8) (own_xorz _ 34) (own_xorz _ 92) (own_xorz _ 194)
    ((own_byteA _ 0x7f7f7f7f7f7f7f7f 8).trans (Nat.and_two_pow_sub_one_eq_mod _ 7)) Nat.and_le_right (by rw [show (256 : Nat) = 2 ^ 8 from rfl, Nat.and_mod_two_pow]; exact Nat.and_le_right)
theorem own_nat_2 (N Rr Y1 Y2 Y3 M x1 x2 x3 : Nat) (hN : N < 18446744073709551616) (h1 : Y1 < 18446744073709551616) (h2 : Y2 < 18446744073709551616) (h3 : Y3 < 18446744073709551616)
    (hR : (Rr / 8388608 % 2 = 1) ↔ ((((18446744073709551616 - 2314885530818453536 + N) % 18446744073709551616 / 8388608 % 2 = 1 ∧ ¬ N / 8388608 % 2 = 1) ∨ (M + 72340172838076673) % 18446744073709551616 / 8388608 % 2 = 1) ∨ ((((18446744073709551616 - 72340172838076673 + Y1) % 18446744073709551616 / 8388608 % 2 = 1 ∧ ¬ Y1 / 8388608 % 2 = 1) ∨ ((18446744073709551616 - 72340172838076673 + Y2) % 18446744073709551616 / 8388608 % 2 = 1 ∧ ¬ Y2 / 8388608 % 2 = 1)) ∨ ((18446744073709551616 - 72340172838076673 + Y3) % 18446744073709551616 / 8388608 % 2 = 1 ∧ ¬ Y3 / 8388608 % 2 = 1))))
    (y1 : Y1 / 65536 % 256 = x1) (y2 : Y2 / 65536 % 256 = x2) (y3 : Y3 / 65536 % 256 = x3) (z1 : x1 = 0 ↔ N / 65536 % 256 = 34) (z2 : x2 = 0 ↔ N / 65536 % 256 = 92) (z3 : x3 = 0 ↔ N / 65536 % 256 = 194)
    (m0 : M / 65536 % 256 = N / 65536 % 256 % 128) (m1 : M ≤ 9187201950435737471) (m2 : M % 65536 ≤ 32639) :
    (own_stop (N / 65536 % 256) → Rr / 8388608 % 2 = 1) ∧ ((2314885530818453536 % 65536 ≤ N % 65536 ∧ 72340172838076673 % 65536 ≤ Y1 % 65536 ∧ 72340172838076673 % 65536 ≤ Y2 % 65536 ∧ 72340172838076673 % 65536 ≤ Y3 % 65536) → Rr / 8388608 % 2 = 1 → own_stop (N / 65536 % 256)) ∧
    ((2314885530818453536 % 65536 ≤ N % 65536 ∧ 72340172838076673 % 65536 ≤ Y1 % 65536 ∧ 72340172838076673 % 65536 ≤ Y2 % 65536 ∧ 72340172838076673 % 65536 ≤ Y3 % 65536) → ¬ own_stop (N / 65536 % 256) → (2314885530818453536 % 16777216 ≤ N % 16777216 ∧ 72340172838076673 % 16777216 ≤ Y1 % 16777216 ∧ 72340172838076673 % 16777216 ≤ Y2 % 16777216 ∧ 72340172838076673 % 16777216 ≤ Y3 % 16777216)) := by
  obtain ⟨a0, b0, d0⟩ := own_s32_2 N hN
  obtain ⟨a1, b1, d1⟩ := own_s1_2 Y1 h1
  obtain ⟨a2, b2, d2⟩ := own_s1_2 Y2 h2
  obtain ⟨a3, b3, d3⟩ := own_s1_2 Y3 h3
  have e4 := own_e_2 M m1 m2 (by rw [m0]; exact Nat.mod_lt _ (by decide))
  rw [y1] at a1 b1 d1
  rw [y2] at a2 b2 d2
  rw [y3] at a3 b3 d3
  rw [m0] at e4
  rw [hR]
  have hb : N / 65536 % 256 < 256 := Nat.mod_lt _ (by decide)
  generalize N / 65536 % 256 = b at *
  unfold own_stop
  refine ⟨?_, ?_, ?_⟩
  · rintro (h | h | h | h | h | h)
    · exact Or.inl (Or.inl (a0 h))
    · exact Or.inr (Or.inl (Or.inl (a1 (by rw [z1.mpr h]; decide))))
    · exact Or.inr (Or.inl (Or.inr (a2 (by rw [z2.mpr h]; decide))))
    · exact Or.inl (Or.inr (e4.mpr (by rw [h])))
    · exact Or.inr (Or.inr (a3 (by rw [z3.mpr h]; decide)))
    · exact Or.inl (Or.inr (e4.mpr (by rw [h])))
  · rintro ⟨n0, n1, n2, n3⟩ ((⟨u, v⟩ | u) | ((⟨u, v⟩ | ⟨u, v⟩) | ⟨u, v⟩))
    · exact Or.inl (b0 n0 u v)
    · have := e4.mp u
      have : b = 127 ∨ b = 255 := by omega
      rcases this with h | h
      · exact Or.inr (Or.inr (Or.inr (Or.inl h)))
      · exact Or.inr (Or.inr (Or.inr (Or.inr (Or.inr h))))
    · exact Or.inr (Or.inl (z1.mp (Nat.lt_one_iff.mp (b1 n1 u v))))
    · exact Or.inr (Or.inr (Or.inl (z2.mp (Nat.lt_one_iff.mp (b2 n2 u v)))))
    · exact Or.inr (Or.inr (Or.inr (Or.inr (Or.inl (z3.mp (Nat.lt_one_iff.mp (b3 n3 u v)))))))
  · rintro ⟨n0, n1, n2, n3⟩ h
    refine ⟨d0 n0 (fun q => h (Or.inl q)), d1 n1 (fun q => h (Or.inr (Or.inl (z1.mp (Nat.lt_one_iff.mp q))))), d2 n2 (fun q => h (Or.inr (Or.inr (Or.inl (z2.mp (Nat.lt_one_iff.mp q)))))), d3 n3 (fun q => h (Or.inr (Or.inr (Or.inr (Or.inr (Or.inl (z3.mp (Nat.lt_one_iff.mp q))))))))⟩
theorem own_key_2 (x : Int64) : (own_stop (x.toBitVec.toNat / 65536 % 256) → (f2 x).toBitVec.toNat / 8388608 % 2 = 1) ∧ (own_NB x.toBitVec.toNat 2 → (f2 x).toBitVec.toNat / 8388608 % 2 = 1 → own_stop (x.toBitVec.toNat / 65536 % 256)) ∧ (own_NB x.toBitVec.toNat 2 → ¬ own_stop (x.toBitVec.toNat / 65536 % 256) → own_NB x.toBitVec.toNat 3) := by
  have hN : x.toBitVec.toNat < 18446744073709551616 := x.toBitVec.isLt
  have hY : ∀ C : Nat, C < 18446744073709551616 → x.toBitVec.toNat ^^^ C < 18446744073709551616 := fun C hC => Nat.xor_lt_two_pow (n := 64) hN hC
  have hR := own_rbitG x 23 18446744073709551616 0x2020202020202020 0x0101010101010101 0x7f7f7f7f7f7f7f7f 0x2222222222222222 0x5c5c5c5c5c5c5c5c 0xc2c2c2c2c2c2c2c2 (by decide) (by decide) (by decide) (by decide) (by decide) (by decide) (by decide) (own_bits x 23 (by decide) (by decide))
  exact own_nat_2 x.toBitVec.toNat (f2 x).toBitVec.toNat (x.toBitVec.toNat ^^^ 0x2222222222222222) (x.toBitVec.toNat ^^^ 0x5c5c5c5c5c5c5c5c) (x.toBitVec.toNat ^^^ 0xc2c2c2c2c2c2c2c2) (x.toBitVec.toNat &&& 0x7f7f7f7f7f7f7f7f) _ _ _ hN (hY _ (by decide)) (hY _ (by decide)) (hY _ (by decide)) hR
    (own_byteX _ 0x2222222222222222 16) (own_byteX _ 0x5c5c5c5c5c5c5c5c 16) (own_byteX _ 0xc2c2c2c2c2c2c2c2 16) (own_xorz _ 34) (own_xorz _ 92) (own_xorz _ 194)
    ((own_byteA _ 0x7f7f7f7f7f7f7f7f 16).trans (Nat.and_two_pow_sub_one_eq_mod _ 7)) Nat.and_le_right (by rw [show (65536 : Nat) = 2 ^ 16 from rfl, Nat.and_mod_two_pow]; exact Nat.and_le_right)
theorem own_nat_3 (N Rr Y1 Y2 Y3 M x1 x2 x3 : Nat) (hN : N < 18446744073709551616) (h1 : Y1 < 18446744073709551616) (h2 : Y2 < 18446744073709551616) (h3 : Y3 < 18446744073709551616)
    (hR : (Rr / 2147483648 % 2 = 1) ↔ ((((18446744073709551616 - 2314885530818453536 + N) % 18446744073709551616 / 2147483648 % 2 = 1 ∧ ¬ N / 2147483648 % 2 = 1) ∨ (M + 72340172838076673) % 18446744073709551616 / 2147483648 % 2 = 1) ∨ ((((18446744073709551616 - 72340172838076673 + Y1) % 18446744073709551616 / 2147483648 % 2 = 1 ∧ ¬ Y1 / 2147483648 % 2 = 1) ∨ ((18446744073709551616 - 72340172838076673 + Y2) % 18446744073709551616 / 2147483648 % 2 = 1 ∧ ¬ Y2 / 2147483648 % 2 = 1)) ∨ ((18446744073709551616 - 72340172838076673 + Y3) % 18446744073709551616 / 2147483648 % 2 = 1 ∧ ¬ Y3 / 2147483648 % 2 = 1))))
    (y1 : Y1 / 16777216 % 256 = x1) (y2 : Y2 / 16777216 % 256 = x2) (y3 : Y3 / 16777216 % 256 = x3) (z1 : x1 = 0 ↔ N / 16777216 % 256 = 34) (z2 : x2 = 0 ↔ N / 16777216 % 256 = 92) (z3 : x3 = 0 ↔ N / 16777216 % 256 = 194)
    (m0 : M / 16777216 % 256 = N / 16777216 % 256 % 128) (m1 : M ≤ 9187201950435737471) (m2 : M % 16777216 ≤ 8355711) :
    (own_stop (N / 16777216 % 256) → Rr / 2147483648 % 2 = 1) ∧ ((2314885530818453536 % 16777216 ≤ N % 16777216 ∧ 72340172838076673 % 16777216 ≤ Y1 % 16777216 ∧ 72340172838076673 % 16777216 ≤ Y2 % 16777216 ∧ 72340172838076673 % 16777216 ≤ Y3 % 16777216) → Rr / 2147483648 % 2 = 1 → own_stop (N / 16777216 % 256)) ∧
    ((2314885530818453536 % 16777216 ≤ N % 16777216 ∧ 72340172838076673 % 16777216 ≤ Y1 % 16777216 ∧ 72340172838076673 % 16777216 ≤ Y2 % 16777216 ∧ 72340172838076673 % 16777216 ≤ Y3 % 16777216) → ¬ own_stop (N / 16777216 % 256) → (2314885530818453536 % 4294967296 ≤ N % 4294967296 ∧ 72340172838076673 % 4294967296 ≤ Y1 % 4294967296 ∧ 72340172838076673 % 4294967296 ≤ Y2 % 4294967296 ∧ 72340172838076673 % 4294967296 ≤ Y3 % 4294967296)) := by
  obtain ⟨a0, b0, d0⟩ := own_s32_3 N hN
  obtain ⟨a1, b1, d1⟩ := own_s1_3 Y1 h1
  obtain ⟨a2, b2, d2⟩ := own_s1_3 Y2 h2
  obtain ⟨a3, b3, d3⟩ := own_s1_3 Y3 h3
  have e4 := own_e_3 M m1 m2 (by rw [m0]; exact Nat.mod_lt _ (by decide))
  rw [y1] at a1 b1 d1
  rw [y2] at a2 b2 d2
  rw [y3] at a3 b3 d3
  rw [m0] at e4
  rw [hR]
  have hb : N / 16777216 % 256 < 256 := Nat.mod_lt _ (by decide)
  generalize N / 16777216 % 256 = b at *
  unfold own_stop
  refine ⟨?_, ?_, ?_⟩
  · rintro (h | h | h | h | h | h)
    · exact Or.inl (Or.inl (a0 h))
    · exact Or.inr (Or.inl (Or.inl (a1 (by rw [z1.mpr h]; decide))))
    · exact Or.inr (Or.inl (Or.inr (a2 (by rw [z2.mpr h]; decide))))
    · exact Or.inl (Or.inr (e4.mpr (by rw [h])))
    · exact Or.inr (Or.inr (a3 (by rw [z3.mpr h]; decide)))
    · exact Or.inl (Or.inr (e4.mpr (by rw [h])))
  · rintro ⟨n0, n1, n2, n3⟩ ((⟨u, v⟩ | u) | ((⟨u, v⟩ | ⟨u, v⟩) | ⟨u, v⟩))
    · exact Or.inl (b0 n0 u v)
    · have := e4.mp u
      have : b = 127 ∨ b = 255 := by omega
      rcases this with h | h
      · exact Or.inr (Or.inr (Or.inr (Or.inl h)))
      · exact Or.inr (Or.inr (Or.inr (Or.inr (Or.inr h))))
    · exact Or.inr (Or.inl (z1.mp (Nat.lt_one_iff.mp (b1 n1 u v))))
    · exact Or.inr (Or.inr (Or.inl (z2.mp (Nat.lt_one_iff.mp (b2 n2 u v)))))
    · exact Or.inr (Or.inr (Or.inr (Or.inr (Or.inl (z3.mp (Nat.lt_one_iff.mp (b3 n3 u v)))))))
  · rintro ⟨n0, n1, n2, n3⟩ h
    refine ⟨d0 n0 (fun q => h (Or.inl q)), d1 n1 (fun q => h (Or.inr (Or.inl (z1.mp (Nat.lt_one_iff.mp q))))), d2 n2 (fun q => h (Or.inr (Or.inr (Or.inl (z2.mp (Nat.lt_one_iff.mp q)))))), d3 n3 (fun q => h (Or.inr (Or.inr (Or.inr (Or.inr (Or.inl (z3.mp (Nat.lt_one_iff.mp q))))))))⟩
theorem own_key_3 (x : Int64) : (own_stop (x.toBitVec.toNat / 16777216 % 256) → (f2 x).toBitVec.toNat / 2147483648 % 2 = 1) ∧ (own_NB x.toBitVec.toNat 3 → (f2 x).toBitVec.toNat / 2147483648 % 2 = 1 → own_stop (x.toBitVec.toNat / 16777216 % 256)) ∧ (own_NB x.toBitVec.toNat 3 → ¬ own_stop (x.toBitVec.toNat / 16777216 % 256) → own_NB x.toBitVec.toNat 4) := by
  have hN : x.toBitVec.toNat < 18446744073709551616 := x.toBitVec.isLt
  have hY : ∀ C : Nat, C < 18446744073709551616 → x.toBitVec.toNat ^^^ C < 18446744073709551616 := fun C hC => Nat.xor_lt_two_pow (n := 64) hN hC
  have hR := own_rbitG x 31 18446744073709551616 0x2020202020202020 0x0101010101010101 0x7f7f7f7f7f7f7f7f 0x2222222222222222 0x5c5c5c5c5c5c5c5c 0xc2c2c2c2c2c2c2c2 (by decide) (by decide) (by decide) (by decide) (by decide) (by decide) (by decide) (own_bits x 31 (by decide) (by decide))
  exact own_nat_3 x.toBitVec.toNat (f2 x).toBitVec.toNat (x.toBitVec.toNat ^^^ 0x2222222222222222) (x.toBitVec.toNat ^^^ 0x5c5c5c5c5c5c5c5c) (x.toBitVec.toNat ^^^ 0xc2c2c2c2c2c2c2c2) (x.toBitVec.toNat &&& 0x7f7f7f7f7f7f7f7f) _ _ _ hN (hY _ (by decide)) (hY _ (by decide)) (hY _ (by decide)) hR
    (own_byteX _ 0x2222222222222222 24) (own_byteX _ 0x5c5c5c5c5c5c5c5c 24) (own_byteX _ 0xc2c2c2c2c2c2c2c2 24) (own_xorz _ 34) (own_xorz _ 92) (own_xorz _ 194)
    ((own_byteA _ 0x7f7f7f7f7f7f7f7f 24).trans (Nat.and_two_pow_sub_one_eq_mod _ 7)) Nat.and_le_right (by rw [show (16777216 : Nat) = 2 ^ 24 from rfl, Nat.and_mod_two_pow]; exact Nat.and_le_right)
theorem own_nat_4 (N Rr Y1 Y2 Y3 M x1 x2 x3 : Nat) (hN : N < 18446744073709551616) (h1 : Y1 < 18446744073709551616) (h2 : Y2 < 18446744073709551616) (h3 : Y3 < 18446744073709551616)
    (hR : (Rr / 549755813888 % 2 = 1) ↔ ((((18446744073709551616 - 2314885530818453536 + N) % 18446744073709551616 / 549755813888 % 2 = 1 ∧ ¬ N / 549755813888 % 2 = 1) ∨ (M + 72340172838076673) % 18446744073709551616 / 549755813888 % 2 = 1) ∨ ((((18446744073709551616 - 72340172838076673 + Y1) % 18446744073709551616 / 549755813888 % 2 = 1 ∧ ¬ Y1 / 549755813888 % 2 = 1) ∨ ((18446744073709551616 - 72340172838076673 + Y2) % 18446744073709551616 / 549755813888 % 2 = 1 ∧ ¬ Y2 / 549755813888 % 2 = 1)) ∨ ((18446744073709551616 - 72340172838076673 + Y3) % 18446744073709551616 / 549755813888 % 2 = 1 ∧ ¬ Y3 / 549755813888 % 2 = 1))))
    (y1 : Y1 / 4294967296 % 256 = x1) (y2 : Y2 / 4294967296 % 256 = x2) (y3 : Y3 / 4294967296 % 256 = x3) (z1 : x1 = 0 ↔ N / 4294967296 % 256 = 34) (z2 : x2 = 0 ↔ N / 4294967296 % 256 = 92) (z3 : x3 = 0 ↔ N / 4294967296 % 256 = 194)
    (m0 : M / 4294967296 % 256 = N / 4294967296 % 256 % 128) (m1 : M ≤ 9187201950435737471) (m2 : M % 4294967296 ≤ 2139062143) :
    (own_stop (N / 4294967296 % 256) → Rr / 549755813888 % 2 = 1) ∧ ((2314885530818453536 % 4294967296 ≤ N % 4294967296 ∧ 72340172838076673 % 4294967296 ≤ Y1 % 4294967296 ∧ 72340172838076673 % 4294967296 ≤ Y2 % 4294967296 ∧ 72340172838076673 % 4294967296 ≤ Y3 % 4294967296) → Rr / 549755813888 % 2 = 1 → own_stop (N / 4294967296 % 256)) ∧
    ((2314885530818453536 % 4294967296 ≤ N % 4294967296 ∧ 72340172838076673 % 4294967296 ≤ Y1 % 4294967296 ∧ 72340172838076673 % 4294967296 ≤ Y2 % 4294967296 ∧ 72340172838076673 % 4294967296 ≤ Y3 % 4294967296) → ¬ own_stop (N / 4294967296 % 256) → (2314885530818453536 % 1099511627776 ≤ N % 1099511627776 ∧ 72340172838076673 % 1099511627776 ≤ Y1 % 1099511627776 ∧ 72340172838076673 % 1099511627776 ≤ Y2 % 1099511627776 ∧ 72340172838076673 % 1099511627776 ≤ Y3 % 1099511627776)) := by
  obtain ⟨a0, b0, d0⟩ := own_s32_4 N hN
  obtain ⟨a1, b1, d1⟩ := own_s1_4 Y1 h1
  obtain ⟨a2, b2, d2⟩ := own_s1_4 Y2 h2
  obtain ⟨a3, b3, d3⟩ := own_s1_4 Y3 h3
  have e4 := own_e_4 M m1 m2 (by rw [m0]; exact Nat.mod_lt _ (by decide))
  rw [y1] at a1 b1 d1
  rw [y2] at a2 b2 d2
  rw [y3] at a3 b3 d3
  rw [m0] at e4
  rw [hR]
  have hb : N / 4294967296 % 256 < 256 := Nat.mod_lt _ (by decide)
  generalize N / 4294967296 % 256 = b at *
  unfold own_stop
  refine ⟨?_, ?_, ?_⟩
  · rintro (h | h | h | h | h | h)
    · exact Or.inl (Or.inl (a0 h))
    · exact Or.inr (Or.inl (Or.inl (a1 (by rw [z1.mpr h]; decide))))
    · exact Or.inr (Or.inl (Or.inr (a2 (by rw [z2.mpr h]; decide))))
    · exact Or.inl (Or.inr (e4.mpr (by rw [h])))
    · exact Or.inr (Or.inr (a3 (by rw [z3.mpr h]; decide)))
    · exact Or.inl (Or.inr (e4.mpr (by rw [h])))
  · rintro ⟨n0, n1, n2, n3⟩ ((⟨u, v⟩ | u) | ((⟨u, v⟩ | ⟨u, v⟩) | ⟨u, v⟩))
    · exact Or.inl (b0 n0 u v)
    · have := e4.mp u
      have : b = 127 ∨ b = 255 := by omega
      rcases this with h | h
      · exact Or.inr (Or.inr (Or.inr (Or.inl h)))
      · exact Or.inr (Or.inr (Or.inr (Or.inr (Or.inr h))))
    · exact Or.inr (Or.inl (z1.mp (Nat.lt_one_iff.mp (b1 n1 u v))))
    · exact Or.inr (Or.inr (Or.inl (z2.mp (Nat.lt_one_iff.mp (b2 n2 u v)))))
    · exact Or.inr (Or.inr (Or.inr (Or.inr (Or.inl (z3.mp (Nat.lt_one_iff.mp (b3 n3 u v)))))))
  · rintro ⟨n0, n1, n2, n3⟩ h
    refine ⟨d0 n0 (fun q => h (Or.inl q)), d1 n1 (fun q => h (Or.inr (Or.inl (z1.mp (Nat.lt_one_iff.mp q))))), d2 n2 (fun q => h (Or.inr (Or.inr (Or.inl (z2.mp (Nat.lt_one_iff.mp q)))))), d3 n3 (fun q => h (Or.inr (Or.inr (Or.inr (Or.inr (Or.inl (z3.mp (Nat.lt_one_iff.mp q))))))))⟩
theorem own_key_4 (x : Int64) : (own_stop (x.toBitVec.toNat / 4294967296 % 256) → (f2 x).toBitVec.toNat / 549755813888 % 2 = 1) ∧ (own_NB x.toBitVec.toNat 4 → (f2 x).toBitVec.toNat / 549755813888 % 2 = 1 → own_stop (x.toBitVec.toNat / 4294967296 % 256)) ∧ (own_NB x.toBitVec.toNat 4 → ¬ own_stop (x.toBitVec.toNat / 4294967296 % 256) → own_NB x.toBitVec.toNat 5) := by
  have hN : x.toBitVec.toNat < 18446744073709551616 := x.toBitVec.isLt
  have hY : ∀ C : Nat, C < 18446744073709551616 → x.toBitVec.toNat ^^^ C < 18446744073709551616 := fun C hC => Nat.xor_lt_two_pow (n := 64) hN hC
  have hR := own_rbitG x 39 18446744073709551616 0x2020202020202020 0x0101010101010101 0x7f7f7f7f7f7f7f7f 0x2222222222222222 0x5c5c5c5c5c5c5c5c 0xc2c2c2c2c2c2c2c2 (by decide) (by decide) (by decide) (by decide) (by decide) (by decide) (by decide) (own_bits x 39 (by decide) (by decide))
  exact own_nat_4 x.toBitVec.toNat (f2 x).toBitVec.toNat (x.toBitVec.toNat ^^^ 0x2222222222222222) (x.toBitVec.toNat ^^^ 0x5c5c5c5c5c5c5c5c) (x.toBitVec.toNat ^^^ 0xc2c2c2c2c2c2c2c2) (x.toBitVec.toNat &&& 0x7f7f7f7f7f7f7f7f) _ _ _ hN (hY _ (by decide)) (hY _ (by decide)) (hY _ (by decide)) hR
    (own_byteX _ 0x2222222222222222 32) (own_byteX _ 0x5c5c5c5c5c5c5c5c 32) (own_byteX _ 0xc2c2c2c2c2c2c2c2 32) (own_xorz _ 34) (own_xorz _ 92) (own_xorz _ 194)
    ((own_byteA _ 0x7f7f7f7f7f7f7f7f 32).trans (Nat.and_two_pow_sub_one_eq_mod _ 7)) Nat.and_le_right (by rw [show (4294967296 : Nat) = 2 ^ 32 from rfl, Nat.and_mod_two_pow]; exact Nat.and_le_right)
theorem own_nat_5 (N Rr Y1 Y2 Y3 M x1 x2 x3 : Nat) (hN : N < 18446744073709551616) (h1 : Y1 < 18446744073709551616) (h2 : Y2 < 18446744073709551616) (h3 : Y3 < 18446744073709551616)
    (hR : (Rr / 140737488355328 % 2 = 1) ↔ ((((18446744073709551616 - 2314885530818453536 + N) % 18446744073709551616 / 140737488355328 % 2 = 1 ∧ ¬ N / 140737488355328 % 2 = 1) ∨ (M + 72340172838076673) % 18446744073709551616 / 140737488355328 % 2 = 1) ∨ ((((18446744073709551616 - 72340172838076673 + Y1) % 18446744073709551616 / 140737488355328 % 2 = 1 ∧ ¬ Y1 / 140737488355328 % 2 = 1) ∨ ((18446744073709551616 - 72340172838076673 + Y2) % 18446744073709551616 / 140737488355328 % 2 = 1 ∧ ¬ Y2 / 140737488355328 % 2 = 1)) ∨ ((18446744073709551616 - 72340172838076673 + Y3) % 18446744073709551616 / 140737488355328 % 2 = 1 ∧ ¬ Y3 / 140737488355328 % 2 = 1))))
    (y1 : Y1 / 1099511627776 % 256 = x1) (y2 : Y2 / 1099511627776 % 256 = x2) (y3 : Y3 / 1099511627776 % 256 = x3) (z1 : x1 = 0 ↔ N / 1099511627776 % 256 = 34) (z2 : x2 = 0 ↔ N / 1099511627776 % 256 = 92) (z3 : x3 = 0 ↔ N / 1099511627776 % 256 = 194)
    (m0 : M / 1099511627776 % 256 = N / 1099511627776 % 256 % 128) (m1 : M ≤ 9187201950435737471) (m2 : M % 1099511627776 ≤ 547599908735) :
    (own_stop (N / 1099511627776 % 256) → Rr / 140737488355328 % 2 = 1) ∧ ((2314885530818453536 % 1099511627776 ≤ N % 1099511627776 ∧ 72340172838076673 % 1099511627776 ≤ Y1 % 1099511627776 ∧ 72340172838076673 % 1099511627776 ≤ Y2 % 1099511627776 ∧ 72340172838076673 % 1099511627776 ≤ Y3 % 1099511627776) → Rr / 140737488355328 % 2 = 1 → own_stop (N / 1099511627776 % 256)) ∧
    ((2314885530818453536 % 1099511627776 ≤ N % 1099511627776 ∧ 72340172838076673 % 1099511627776 ≤ Y1 % 1099511627776 ∧ 72340172838076673 % 1099511627776 ≤ Y2 % 1099511627776 ∧ 72340172838076673 % 1099511627776 ≤ Y3 % 1099511627776) → ¬ own_stop (N / 1099511627776 % 256) → (2314885530818453536 % 281474976710656 ≤ N % 281474976710656 ∧ 72340172838076673 % 281474976710656 ≤ Y1 % 281474976710656 ∧ 72340172838076673 % 281474976710656 ≤ Y2 % 281474976710656 ∧ 72340172838076673 % 281474976710656 ≤ Y3 % 281474976710656)) := by
  obtain ⟨a0, b0, d0⟩ := own_s32_5 N hN
  obtain ⟨a1, b1, d1⟩ := own_s1_5 Y1 h1
  obtain ⟨a2, b2, d2⟩ := own_s1_5 Y2 h2
  obtain ⟨a3, b3, d3⟩ := own_s1_5 Y3 h3
  have e4 := own_e_5 M m1 m2 (by rw [m0]; exact Nat.mod_lt _ (by decide))
  rw [y1] at a1 b1 d1
  rw [y2] at a2 b2 d2
  rw [y3] at a3 b3 d3
  rw [m0] at e4
  rw [hR]
  have hb : N / 1099511627776 % 256 < 256 := Nat.mod_lt _ (by decide)
  generalize N / 1099511627776 % 256 = b at *
  unfold own_stop
  refine ⟨?_, ?_, ?_⟩
  · rintro (h | h | h | h | h | h)
    · exact Or.inl (Or.inl (a0 h))
    · exact Or.inr (Or.inl (Or.inl (a1 (by rw [z1.mpr h]; decide))))
    · exact Or.inr (Or.inl (Or.inr (a2 (by rw [z2.mpr h]; decide))))
    · exact Or.inl (Or.inr (e4.mpr (by rw [h])))
    · exact Or.inr (Or.inr (a3 (by rw [z3.mpr h]; decide)))
    · exact Or.inl (Or.inr (e4.mpr (by rw [h])))
  · rintro ⟨n0, n1, n2, n3⟩ ((⟨u, v⟩ | u) | ((⟨u, v⟩ | ⟨u, v⟩) | ⟨u, v⟩))
    · exact Or.inl (b0 n0 u v)
    · have := e4.mp u
      have : b = 127 ∨ b = 255 := by omega
      rcases this with h | h
      · exact Or.inr (Or.inr (Or.inr (Or.inl h)))
      · exact Or.inr (Or.inr (Or.inr (Or.inr (Or.inr h))))
    · exact Or.inr (Or.inl (z1.mp (Nat.lt_one_iff.mp (b1 n1 u v))))
    · exact Or.inr (Or.inr (Or.inl (z2.mp (Nat.lt_one_iff.mp (b2 n2 u v)))))
    · exact Or.inr (Or.inr (Or.inr (Or.inr (Or.inl (z3.mp (Nat.lt_one_iff.mp (b3 n3 u v)))))))
  · rintro ⟨n0, n1, n2, n3⟩ h
    refine ⟨d0 n0 (fun q => h (Or.inl q)), d1 n1 (fun q => h (Or.inr (Or.inl (z1.mp (Nat.lt_one_iff.mp q))))), d2 n2 (fun q => h (Or.inr (Or.inr (Or.inl (z2.mp (Nat.lt_one_iff.mp q)))))), d3 n3 (fun q => h (Or.inr (Or.inr (Or.inr (Or.inr (Or.inl (z3.mp (Nat.lt_one_iff.mp q))))))))⟩
theorem own_key_5 (x : Int64) : (own_stop (x.toBitVec.toNat / 1099511627776 % 256) → (f2 x).toBitVec.toNat / 140737488355328 % 2 = 1) ∧ (own_NB x.toBitVec.toNat 5 → (f2 x).toBitVec.toNat / 140737488355328 % 2 = 1 → own_stop (x.toBitVec.toNat / 1099511627776 % 256)) ∧ (own_NB x.toBitVec.toNat 5 → ¬ own_stop (x.toBitVec.toNat / 1099511627776 % 256) → own_NB x.toBitVec.toNat 6) := by
  have hN : x.toBitVec.toNat < 18446744073709551616 := x.toBitVec.isLt
  have hY : ∀ C : Nat, C < 18446744073709551616 → x.toBitVec.toNat ^^^ C < 18446744073709551616 := fun C hC => Nat.xor_lt_two_pow (n := 64) hN hC
  have hR := own_rbitG x 47 18446744073709551616 0x2020202020202020 0x0101010101010101 0x7f7f7f7f7f7f7f7f 0x2222222222222222 0x5c5c5c5c5c5c5c5c 0xc2c2c2c2c2c2c2c2 (by decide) (by decide) (by decide) (by decide) (by decide) (by decide) (by decide) (own_bits x 47 (by decide) (by decide))
  exact own_nat_5 x.toBitVec.toNat (f2 x).toBitVec.toNat (x.toBitVec.toNat ^^^ 0x2222222222222222) (x.toBitVec.toNat ^^^ 0x5c5c5c5c5c5c5c5c) (x.toBitVec.toNat ^^^ 0xc2c2c2c2c2c2c2c2) (x.toBitVec.toNat &&& 0x7f7f7f7f7f7f7f7f) _ _ _ hN (hY _ (by decide)) (hY _ (by decide)) (hY _ (by decide)) hR
    (own_byteX _ 0x2222222222222222 40) (own_byteX _ 0x5c5c5c5c5c5c5c5c 40) (own_byteX _ 0xc2c2c2c2c2c2c2c2 40) (own_xorz _ 34) (own_xorz _ 92) (own_xorz _ 194)
    ((own_byteA _ 0x7f7f7f7f7f7f7f7f 40).trans (Nat.and_two_pow_sub_one_eq_mod _ 7)) Nat.and_le_right (by rw [show (1099511627776 : Nat) = 2 ^ 40 from rfl, Nat.and_mod_two_pow]; exact Nat.and_le_right)
theorem own_nat_6 (N Rr Y1 Y2 Y3 M x1 x2 x3 : Nat) (hN : N < 18446744073709551616) (h1 : Y1 < 18446744073709551616) (h2 : Y2 < 18446744073709551616) (h3 : Y3 < 18446744073709551616)
    (hR : (Rr / 36028797018963968 % 2 = 1) ↔ ((((18446744073709551616 - 2314885530818453536 + N) % 18446744073709551616 / 36028797018963968 % 2 = 1 ∧ ¬ N / 36028797018963968 % 2 = 1) ∨ (M + 72340172838076673) % 18446744073709551616 / 36028797018963968 % 2 = 1) ∨ ((((18446744073709551616 - 72340172838076673 + Y1) % 18446744073709551616 / 36028797018963968 % 2 = 1 ∧ ¬ Y1 / 36028797018963968 % 2 = 1) ∨ ((18446744073709551616 - 72340172838076673 + Y2) % 18446744073709551616 / 36028797018963968 % 2 = 1 ∧ ¬ Y2 / 36028797018963968 % 2 = 1)) ∨ ((18446744073709551616 - 72340172838076673 + Y3) % 18446744073709551616 / 36028797018963968 % 2 = 1 ∧ ¬ Y3 / 36028797018963968 % 2 = 1))))
    (y1 : Y1 / 281474976710656 % 256 = x1) (y2 : Y2 / 281474976710656 % 256 = x2) (y3 : Y3 / 281474976710656 % 256 = x3) (z1 : x1 = 0 ↔ N / 281474976710656 % 256 = 34) (z2 : x2 = 0 ↔ N / 281474976710656 % 256 = 92) (z3 : x3 = 0 ↔ N / 281474976710656 % 256 = 194)
    (m0 : M / 281474976710656 % 256 = N / 281474976710656 % 256 % 128) (m1 : M ≤ 9187201950435737471) (m2 : M % 281474976710656 ≤ 140185576636287) :
    (own_stop (N / 281474976710656 % 256) → Rr / 36028797018963968 % 2 = 1) ∧ ((2314885530818453536 % 281474976710656 ≤ N % 281474976710656 ∧ 72340172838076673 % 281474976710656 ≤ Y1 % 281474976710656 ∧ 72340172838076673 % 281474976710656 ≤ Y2 % 281474976710656 ∧ 72340172838076673 % 281474976710656 ≤ Y3 % 281474976710656) → Rr / 36028797018963968 % 2 = 1 → own_stop (N / 281474976710656 % 256)) ∧
    ((2314885530818453536 % 281474976710656 ≤ N % 281474976710656 ∧ 72340172838076673 % 281474976710656 ≤ Y1 % 281474976710656 ∧ 72340172838076673 % 281474976710656 ≤ Y2 % 281474976710656 ∧ 72340172838076673 % 281474976710656 ≤ Y3 % 281474976710656) → ¬ own_stop (N / 281474976710656 % 256) → (2314885530818453536 % 72057594037927936 ≤ N % 72057594037927936 ∧ 72340172838076673 % 72057594037927936 ≤ Y1 % 72057594037927936 ∧ 72340172838076673 % 72057594037927936 ≤ Y2 % 72057594037927936 ∧ 72340172838076673 % 72057594037927936 ≤ Y3 % 72057594037927936)) := by
  obtain ⟨a0, b0, d0⟩ := own_s32_6 N hN
  obtain ⟨a1, b1, d1⟩ := own_s1_6 Y1 h1
  obtain ⟨a2, b2, d2⟩ := own_s1_6 Y2 h2
  obtain ⟨a3, b3, d3⟩ := own_s1_6 Y3 h3
  have e4 := own_e_6 M m1 m2 (by rw [m0]; exact Nat.mod_lt _ (by decide))
  rw [y1] at a1 b1 d1
  rw [y2] at a2 b2 d2
  rw [y3] at a3 b3 d3
  rw [m0] at e4
  rw [hR]
  have hb : N / 281474976710656 % 256 < 256 := Nat.mod_lt _ (by decide)
  generalize N / 281474976710656 % 256 = b at *
  unfold own_stop
  refine ⟨?_, ?_, ?_⟩
  · rintro (h | h | h | h | h | h)
    · exact Or.inl (Or.inl (a0 h))
    · exact Or.inr (Or.inl (Or.inl (a1 (by rw [z1.mpr h]; decide))))
    · exact Or.inr (Or.inl (Or.inr (a2 (by rw [z2.mpr h]; decide))))
    · exact Or.inl (Or.inr (e4.mpr (by rw [h])))
    · exact Or.inr (Or.inr (a3 (by rw [z3.mpr h]; decide)))
    · exact Or.inl (Or.inr (e4.mpr (by rw [h])))
  · rintro ⟨n0, n1, n2, n3⟩ ((⟨u, v⟩ | u) | ((⟨u, v⟩ | ⟨u, v⟩) | ⟨u, v⟩))
    · exact Or.inl (b0 n0 u v)
    · have := e4.mp u
      have : b = 127 ∨ b = 255 := by omega
      rcases this with h | h
      · exact Or.inr (Or.inr (Or.inr (Or.inl h)))
      · exact Or.inr (Or.inr (Or.inr (Or.inr (Or.inr h))))
    · exact Or.inr (Or.inl (z1.mp (Nat.lt_one_iff.mp (b1 n1 u v))))
    · exact Or.inr (Or.inr (Or.inl (z2.mp (Nat.lt_one_iff.mp (b2 n2 u v)))))
    · exact Or.inr (Or.inr (Or.inr (Or.inr (Or.inl (z3.mp (Nat.lt_one_iff.mp (b3 n3 u v)))))))
  · rintro ⟨n0, n1, n2, n3⟩ h
    refine ⟨d0 n0 (fun q => h (Or.inl q)), d1 n1 (fun q => h (Or.inr (Or.inl (z1.mp (Nat.lt_one_iff.mp q))))), d2 n2 (fun q => h (Or.inr (Or.inr (Or.inl (z2.mp (Nat.lt_one_iff.mp q)))))), d3 n3 (fun q => h (Or.inr (Or.inr (Or.inr (Or.inr (Or.inl (z3.mp (Nat.lt_one_iff.mp q))))))))⟩
theorem own_key_6 (x : Int64) : (own_stop (x.toBitVec.toNat / 281474976710656 % 256) → (f2 x).toBitVec.toNat / 36028797018963968 % 2 = 1) ∧ (own_NB x.toBitVec.toNat 6 → (f2 x).toBitVec.toNat / 36028797018963968 % 2 = 1 → own_stop (x.toBitVec.toNat / 281474976710656 % 256)) ∧ (own_NB x.toBitVec.toNat 6 → ¬ own_stop (x.toBitVec.toNat / 281474976710656 % 256) → own_NB x.toBitVec.toNat 7) := by
  have hN : x.toBitVec.toNat < 18446744073709551616 := x.toBitVec.isLt
  have hY : ∀ C : Nat, C < 18446744073709551616 → x.toBitVec.toNat ^^^ C < 18446744073709551616 := fun C hC => Nat.xor_lt_two_pow (n := 64) hN hC
  have hR := own_rbitG x 55 18446744073709551616 0x2020202020202020 0x0101010101010101 0x7f7f7f7f7f7f7f7f 0x2222222222222222 0x5c5c5c5c5c5c5c5c 0xc2c2c2c2c2c2c2c2 (by decide) (by decide) (by decide) (by decide) (by decide) (by decide) (by decide) (own_bits x 55 (by decide) (by decide))
  exact own_nat_6 x.toBitVec.toNat (f2 x).toBitVec.toNat (x.toBitVec.toNat ^^^ 0x2222222222222222) (x.toBitVec.toNat ^^^ 0x5c5c5c5c5c5c5c5c) (x.toBitVec.toNat ^^^ 0xc2c2c2c2c2c2c2c2) (x.toBitVec.toNat &&& 0x7f7f7f7f7f7f7f7f) _ _ _ hN (hY _ (by decide)) (hY _ (by decide)) (hY _ (by decide)) hR
    (own_byteX _ 0x2222222222222222 48) (own_byteX _ 0x5c5c5c5c5c5c5c5c 48) (own_byteX _ 0xc2c2c2c2c2c2c2c2 48) (own_xorz _ 34) (own_xorz _ 92) (own_xorz _ 194)
    ((own_byteA _ 0x7f7f7f7f7f7f7f7f 48).trans (Nat.and_two_pow_sub_one_eq_mod _ 7)) Nat.and_le_right (by rw [show (281474976710656 : Nat) = 2 ^ 48 from rfl, Nat.and_mod_two_pow]; exact Nat.and_le_right)
theorem own_nat_7 (N Rr Y1 Y2 Y3 M x1 x2 x3 : Nat) (hN : N < 18446744073709551616) (h1 : Y1 < 18446744073709551616) (h2 : Y2 < 18446744073709551616) (h3 : Y3 < 18446744073709551616)
    (hR : (Rr / 9223372036854775808 % 2 = 1) ↔ ((((18446744073709551616 - 2314885530818453536 + N) % 18446744073709551616 / 9223372036854775808 % 2 = 1 ∧ ¬ N / 9223372036854775808 % 2 = 1) ∨ (M + 72340172838076673) % 18446744073709551616 / 9223372036854775808 % 2 = 1) ∨ ((((18446744073709551616 - 72340172838076673 + Y1) % 18446744073709551616 / 9223372036854775808 % 2 = 1 ∧ ¬ Y1 / 9223372036854775808 % 2 = 1) ∨ ((18446744073709551616 - 72340172838076673 + Y2) % 18446744073709551616 / 9223372036854775808 % 2 = 1 ∧ ¬ Y2 / 9223372036854775808 % 2 = 1)) ∨ ((18446744073709551616 - 72340172838076673 + Y3) % 18446744073709551616 / 9223372036854775808 % 2 = 1 ∧ ¬ Y3 / 9223372036854775808 % 2 = 1))))
    (y1 : Y1 / 72057594037927936 % 256 = x1) (y2 : Y2 / 72057594037927936 % 256 = x2) (y3 : Y3 / 72057594037927936 % 256 = x3) (z1 : x1 = 0 ↔ N / 72057594037927936 % 256 = 34) (z2 : x2 = 0 ↔ N / 72057594037927936 % 256 = 92) (z3 : x3 = 0 ↔ N / 72057594037927936 % 256 = 194)
    (m0 : M / 72057594037927936 % 256 = N / 72057594037927936 % 256 % 128) (m1 : M ≤ 9187201950435737471) (m2 : M % 72057594037927936 ≤ 35887507618889599) :
    (own_stop (N / 72057594037927936 % 256) → Rr / 9223372036854775808 % 2 = 1) ∧ ((2314885530818453536 % 72057594037927936 ≤ N % 72057594037927936 ∧ 72340172838076673 % 72057594037927936 ≤ Y1 % 72057594037927936 ∧ 72340172838076673 % 72057594037927936 ≤ Y2 % 72057594037927936 ∧ 72340172838076673 % 72057594037927936 ≤ Y3 % 72057594037927936) → Rr / 9223372036854775808 % 2 = 1 → own_stop (N / 72057594037927936 % 256)) ∧
    ((2314885530818453536 % 72057594037927936 ≤ N % 72057594037927936 ∧ 72340172838076673 % 72057594037927936 ≤ Y1 % 72057594037927936 ∧ 72340172838076673 % 72057594037927936 ≤ Y2 % 72057594037927936 ∧ 72340172838076673 % 72057594037927936 ≤ Y3 % 72057594037927936) → ¬ own_stop (N / 72057594037927936 % 256) → (2314885530818453536 % 18446744073709551616 ≤ N % 18446744073709551616 ∧ 72340172838076673 % 18446744073709551616 ≤ Y1 % 18446744073709551616 ∧ 72340172838076673 % 18446744073709551616 ≤ Y2 % 18446744073709551616 ∧ 72340172838076673 % 18446744073709551616 ≤ Y3 % 18446744073709551616)) := by
  obtain ⟨a0, b0, d0⟩ := own_s32_7 N hN
  obtain ⟨a1, b1, d1⟩ := own_s1_7 Y1 h1
  obtain ⟨a2, b2, d2⟩ := own_s1_7 Y2 h2
  obtain ⟨a3, b3, d3⟩ := own_s1_7 Y3 h3
  have e4 := own_e_7 M m1 m2 (by rw [m0]; exact Nat.mod_lt _ (by decide))
  rw [y1] at a1 b1 d1
  rw [y2] at a2 b2 d2
  rw [y3] at a3 b3 d3
  rw [m0] at e4
  rw [hR]
  have hb : N / 72057594037927936 % 256 < 256 := Nat.mod_lt _ (by decide)
  generalize N / 72057594037927936 % 256 = b at *
  unfold own_stop
  refine ⟨?_, ?_, ?_⟩
  · rintro (h | h | h | h | h | h)
    · exact Or.inl (Or.inl (a0 h))
    · exact Or.inr (Or.inl (Or.inl (a1 (by rw [z1.mpr h]; decide))))
    · exact Or.inr (Or.inl (Or.inr (a2 (by rw [z2.mpr h]; decide))))
    · exact Or.inl (Or.inr (e4.mpr (by rw [h])))
    · exact Or.inr (Or.inr (a3 (by rw [z3.mpr h]; decide)))
    · exact Or.inl (Or.inr (e4.mpr (by rw [h])))
  · rintro ⟨n0, n1, n2, n3⟩ ((⟨u, v⟩ | u) | ((⟨u, v⟩ | ⟨u, v⟩) | ⟨u, v⟩))
    · exact Or.inl (b0 n0 u v)
    · have := e4.mp u
      have : b = 127 ∨ b = 255 := by omega
      rcases this with h | h
      · exact Or.inr (Or.inr (Or.inr (Or.inl h)))
      · exact Or.inr (Or.inr (Or.inr (Or.inr (Or.inr h))))
    · exact Or.inr (Or.inl (z1.mp (Nat.lt_one_iff.mp (b1 n1 u v))))
    · exact Or.inr (Or.inr (Or.inl (z2.mp (Nat.lt_one_iff.mp (b2 n2 u v)))))
    · exact Or.inr (Or.inr (Or.inr (Or.inr (Or.inl (z3.mp (Nat.lt_one_iff.mp (b3 n3 u v)))))))
  · rintro ⟨n0, n1, n2, n3⟩ h
    refine ⟨d0 n0 (fun q => h (Or.inl q)), d1 n1 (fun q => h (Or.inr (Or.inl (z1.mp (Nat.lt_one_iff.mp q))))), d2 n2 (fun q => h (Or.inr (Or.inr (Or.inl (z2.mp (Nat.lt_one_iff.mp q)))))), d3 n3 (fun q => h (Or.inr (Or.inr (Or.inr (Or.inr (Or.inl (z3.mp (Nat.lt_one_iff.mp q))))))))⟩
theorem own_key_7 (x : Int64) : (own_stop (x.toBitVec.toNat / 72057594037927936 % 256) → (f2 x).toBitVec.toNat / 9223372036854775808 % 2 = 1) ∧ (own_NB x.toBitVec.toNat 7 → (f2 x).toBitVec.toNat / 9223372036854775808 % 2 = 1 → own_stop (x.toBitVec.toNat / 72057594037927936 % 256)) ∧ (own_NB x.toBitVec.toNat 7 → ¬ own_stop (x.toBitVec.toNat / 72057594037927936 % 256) → own_NB x.toBitVec.toNat 8) := by
  have hN : x.toBitVec.toNat < 18446744073709551616 := x.toBitVec.isLt
  have hY : ∀ C : Nat, C < 18446744073709551616 → x.toBitVec.toNat ^^^ C < 18446744073709551616 := fun C hC => Nat.xor_lt_two_pow (n := 64) hN hC
  have hR := own_rbitG x 63 18446744073709551616 0x2020202020202020 0x0101010101010101 0x7f7f7f7f7f7f7f7f 0x2222222222222222 0x5c5c5c5c5c5c5c5c 0xc2c2c2c2c2c2c2c2 (by decide) (by decide) (by decide) (by decide) (by decide) (by decide) (by decide) (own_bits x 63 (by decide) (by decide))
  exact own_nat_7 x.toBitVec.toNat (f2 x).toBitVec.toNat (x.toBitVec.toNat ^^^ 0x2222222222222222) (x.toBitVec.toNat ^^^ 0x5c5c5c5c5c5c5c5c) (x.toBitVec.toNat ^^^ 0xc2c2c2c2c2c2c2c2) (x.toBitVec.toNat &&& 0x7f7f7f7f7f7f7f7f) _ _ _ hN (hY _ (by decide)) (hY _ (by decide)) (hY _ (by decide)) hR
    (own_byteX _ 0x2222222222222222 56) (own_byteX _ 0x5c5c5c5c5c5c5c5c 56) (own_byteX _ 0xc2c2c2c2c2c2c2c2 56) (own_xorz _ 34) (own_xorz _ 92) (own_xorz _ 194)
    ((own_byteA _ 0x7f7f7f7f7f7f7f7f 56).trans (Nat.and_two_pow_sub_one_eq_mod _ 7)) Nat.and_le_right (by rw [show (72057594037927936 : Nat) = 2 ^ 56 from rfl, Nat.and_mod_two_pow]; exact Nat.and_le_right)
def own_S (x : Int64) (k : Nat) : Prop := own_stop (x.toBitVec.toNat / 2 ^ (8 * k) % 256)
theorem own_f4 (x r : Int64) (k : Int32) (st : Int32) (bn rn : Nat) (hb : (XT.ushrL x ((8 : Int32) * k)).toBitVec.toNat = bn) (hr : (XT.ushrL r (((8 : Int32) * k) + (7 : Int32))).toBitVec.toNat = rn) (hst : st = 0 ∨ st = 1) (hA : own_stop (bn % 256) → rn % 2 = 1) (hB : st = 0 → rn % 2 = 1 → own_stop (bn % 256)) :
    (f4 x r k st = 0 ∨ f4 x r k st = 1) ∧ (f4 x r k st = 0 → st = 0 ∧ ¬ own_stop (bn % 256)) := by
  have h3 := own_f3 ((XT.ushrL x ((8 : Int32) * k)).toInt32 &&& 255) (bn % 256) (by rw [own_low8, hb])
  have hbit : own_bit x r k st = if rn % 2 = 1 then 1 else 0 := by
    unfold own_bit
    have := own_low1 (XT.ushrL r (((8 : Int32) * k) + (7 : Int32)))
    rw [hr] at this
    by_cases q : rn % 2 = 1
    · rw [if_neg (by rw [this]; exact fun z => z q), if_pos q]
    · rw [if_pos (this.mpr q), if_neg q]
  unfold f4
  rw [hbit]
  generalize f3 ((XT.ushrL x ((8 : Int32) * k)).toInt32 &&& 255) = sv at *
  have hst2 : ¬ st = 2 := by rcases hst with h | h <;> rw [h] <;> decide
  rw [if_neg hst2]
  rcases h3.1 with e | e
  · have ns : ¬ own_stop (bn % 256) := fun q => by have := h3.2.mpr q; rw [e] at this; exact absurd this (by decide)
    rw [if_pos e]
    rcases hst with h | h
    · have nr : ¬ rn % 2 = 1 := fun q => ns (hB h q)
      rw [if_pos h, if_neg nr, e, if_pos rfl]
      exact ⟨Or.inl h, fun _ => ⟨h, ns⟩⟩
    · rw [if_neg (by rw [h]; decide)]
      exact ⟨Or.inr h, fun q => absurd (h.symm.trans q) (by decide)⟩
  · have ys := h3.2.mp e
    have yr := hA ys
    rw [if_neg (by rw [e]; decide), if_pos yr, if_neg (by decide)]
    rcases hst with h | h
    · rw [if_pos h, e, if_pos rfl]
      exact ⟨Or.inr rfl, fun q => absurd q (by decide)⟩
    · rw [if_neg (by rw [h]; decide)]
      exact ⟨Or.inr rfl, fun q => absurd q (by decide)⟩
theorem own_law (j1 : Int64) : f0 j1 = 1 := by
  have hmask : (f2 j1) &&& (9187201950435737471 : Int64) = 0 := by
    unfold f2
    rw [Int64.and_assoc]
    have : (-9187201950435737472 : Int64) &&& 9187201950435737471 = 0 := by decide
    rw [this, Int64.and_zero]
  unfold f0
  rw [if_pos hmask]
  have n0 : own_NB j1.toBitVec.toNat 0 := by
    unfold own_NB
    simp only [Nat.mul_zero, Nat.pow_zero, Nat.mod_one]
    exact ⟨Nat.le_refl _, Nat.le_refl _, Nat.le_refl _, Nat.le_refl _⟩
  have s0 : ((0 : Int32) = 0 ∨ (0 : Int32) = 1) ∧ ((0 : Int32) = 0 → own_NB j1.toBitVec.toNat 0) := ⟨Or.inl rfl, fun _ => n0⟩
  have k0 := own_key_0 j1
  have g0 := own_f4 j1 (f2 j1) (0 : Int32) (0 : Int32) _ _ (own_shr j1 _ 0 (by decide) (by decide)) (own_shr (f2 j1) _ 7 (by decide) (by decide)) s0.1 k0.1 (fun q => k0.2.1 (s0.2 q))
  have s1 : (f4 j1 (f2 j1) (0 : Int32) (0 : Int32) = 0 ∨ f4 j1 (f2 j1) (0 : Int32) (0 : Int32) = 1) ∧ (f4 j1 (f2 j1) (0 : Int32) (0 : Int32) = 0 → own_NB j1.toBitVec.toNat 1) := ⟨g0.1, fun q => k0.2.2 (s0.2 (g0.2 q).1) (g0.2 q).2⟩
  generalize f4 j1 (f2 j1) (0 : Int32) (0 : Int32) = t0 at *
  have k1 := own_key_1 j1
  have g1 := own_f4 j1 (f2 j1) (1 : Int32) t0 _ _ (own_shr j1 _ 8 (by decide) (by decide)) (own_shr (f2 j1) _ 15 (by decide) (by decide)) s1.1 k1.1 (fun q => k1.2.1 (s1.2 q))
  have s2 : (f4 j1 (f2 j1) (1 : Int32) t0 = 0 ∨ f4 j1 (f2 j1) (1 : Int32) t0 = 1) ∧ (f4 j1 (f2 j1) (1 : Int32) t0 = 0 → own_NB j1.toBitVec.toNat 2) := ⟨g1.1, fun q => k1.2.2 (s1.2 (g1.2 q).1) (g1.2 q).2⟩
  generalize f4 j1 (f2 j1) (1 : Int32) t0 = t1 at *
  have k2 := own_key_2 j1
  have g2 := own_f4 j1 (f2 j1) (2 : Int32) t1 _ _ (own_shr j1 _ 16 (by decide) (by decide)) (own_shr (f2 j1) _ 23 (by decide) (by decide)) s2.1 k2.1 (fun q => k2.2.1 (s2.2 q))
  have s3 : (f4 j1 (f2 j1) (2 : Int32) t1 = 0 ∨ f4 j1 (f2 j1) (2 : Int32) t1 = 1) ∧ (f4 j1 (f2 j1) (2 : Int32) t1 = 0 → own_NB j1.toBitVec.toNat 3) := ⟨g2.1, fun q => k2.2.2 (s2.2 (g2.2 q).1) (g2.2 q).2⟩
  generalize f4 j1 (f2 j1) (2 : Int32) t1 = t2 at *
  have k3 := own_key_3 j1
  have g3 := own_f4 j1 (f2 j1) (3 : Int32) t2 _ _ (own_shr j1 _ 24 (by decide) (by decide)) (own_shr (f2 j1) _ 31 (by decide) (by decide)) s3.1 k3.1 (fun q => k3.2.1 (s3.2 q))
  have s4 : (f4 j1 (f2 j1) (3 : Int32) t2 = 0 ∨ f4 j1 (f2 j1) (3 : Int32) t2 = 1) ∧ (f4 j1 (f2 j1) (3 : Int32) t2 = 0 → own_NB j1.toBitVec.toNat 4) := ⟨g3.1, fun q => k3.2.2 (s3.2 (g3.2 q).1) (g3.2 q).2⟩
  generalize f4 j1 (f2 j1) (3 : Int32) t2 = t3 at *
  have k4 := own_key_4 j1
  have g4 := own_f4 j1 (f2 j1) (4 : Int32) t3 _ _ (own_shr j1 _ 32 (by decide) (by decide)) (own_shr (f2 j1) _ 39 (by decide) (by decide)) s4.1 k4.1 (fun q => k4.2.1 (s4.2 q))
  have s5 : (f4 j1 (f2 j1) (4 : Int32) t3 = 0 ∨ f4 j1 (f2 j1) (4 : Int32) t3 = 1) ∧ (f4 j1 (f2 j1) (4 : Int32) t3 = 0 → own_NB j1.toBitVec.toNat 5) := ⟨g4.1, fun q => k4.2.2 (s4.2 (g4.2 q).1) (g4.2 q).2⟩
  generalize f4 j1 (f2 j1) (4 : Int32) t3 = t4 at *
  have k5 := own_key_5 j1
  have g5 := own_f4 j1 (f2 j1) (5 : Int32) t4 _ _ (own_shr j1 _ 40 (by decide) (by decide)) (own_shr (f2 j1) _ 47 (by decide) (by decide)) s5.1 k5.1 (fun q => k5.2.1 (s5.2 q))
  have s6 : (f4 j1 (f2 j1) (5 : Int32) t4 = 0 ∨ f4 j1 (f2 j1) (5 : Int32) t4 = 1) ∧ (f4 j1 (f2 j1) (5 : Int32) t4 = 0 → own_NB j1.toBitVec.toNat 6) := ⟨g5.1, fun q => k5.2.2 (s5.2 (g5.2 q).1) (g5.2 q).2⟩
  generalize f4 j1 (f2 j1) (5 : Int32) t4 = t5 at *
  have k6 := own_key_6 j1
  have g6 := own_f4 j1 (f2 j1) (6 : Int32) t5 _ _ (own_shr j1 _ 48 (by decide) (by decide)) (own_shr (f2 j1) _ 55 (by decide) (by decide)) s6.1 k6.1 (fun q => k6.2.1 (s6.2 q))
  have s7 : (f4 j1 (f2 j1) (6 : Int32) t5 = 0 ∨ f4 j1 (f2 j1) (6 : Int32) t5 = 1) ∧ (f4 j1 (f2 j1) (6 : Int32) t5 = 0 → own_NB j1.toBitVec.toNat 7) := ⟨g6.1, fun q => k6.2.2 (s6.2 (g6.2 q).1) (g6.2 q).2⟩
  generalize f4 j1 (f2 j1) (6 : Int32) t5 = t6 at *
  have k7 := own_key_7 j1
  have g7 := own_f4 j1 (f2 j1) (7 : Int32) t6 _ _ (own_shr j1 _ 56 (by decide) (by decide)) (own_shr (f2 j1) _ 63 (by decide) (by decide)) s7.1 k7.1 (fun q => k7.2.1 (s7.2 q))
  have s8 : (f4 j1 (f2 j1) (7 : Int32) t6 = 0 ∨ f4 j1 (f2 j1) (7 : Int32) t6 = 1) ∧ (f4 j1 (f2 j1) (7 : Int32) t6 = 0 → own_NB j1.toBitVec.toNat 8) := ⟨g7.1, fun q => k7.2.2 (s7.2 (g7.2 q).1) (g7.2 q).2⟩
  generalize f4 j1 (f2 j1) (7 : Int32) t6 = t7 at *
  rw [if_neg (by rcases s8.1 with h | h <;> rw [h] <;> decide)]
set_option maxRecDepth 65536 in
set_option maxHeartbeats 40000000 in
theorem rm0 (l : Launch) (Z : State) (a0 : Array Value) (hw : ∀ d ∈ tables_1, d.before a0 Z = true) (ws : List Jvm.Cond) (j1 : Int64) (h0 : Heap) (n0 : Nat) (Z0 : n0 ≤ h0.size)  :
    own_Met l x code maxLocals ret room_1 ws #[(.long j1)] Z h0 0 0 (fun v h L => v = some (.int (f0 j1)) ∧ Fr n0 L) := by
  refine own_met (plainFor_of_name pn1) ?_
  intro p e s m below meth c s₁ hx hby hml hown hnm hret hlk hZ e0 X0
  have hml : c.maxLocals = 5 := hml
  have N0 := Fr.nil n0
  have K0 := Keep.refl h0 []
  refine own_go (fun _ k => castTop (ef0 m j1) k) ?_
  show own_Fin p.tables e below _ (s₁.setTop (mkF m 0 #[.val (.long j1), .second, .unset, .unset, .unset] []))
  refine own_go (fun _ k => XT.lloadN X0.here hx rfl (hb hby at_0) rfl k) ?_
  show own_Fin p.tables e below _ (s₁.setTop (mkF m 1 #[.val (.long j1), .second, .unset, .unset, .unset] [(.long j1)]))
  obtain ⟨_, T1, L1, X1, ⟨rfl, M1, e1⟩, st1⟩ := own_callS X0 hx hZ hown (hw _ (List.mem_of_getElem? (i := 0) rfl)) (hw _ (List.mem_of_getElem? (i := 1) rfl)) (hw _ (List.mem_of_getElem? (i := 2) rfl)) (hw _ (List.mem_of_getElem? (i := 3) rfl)) (by decide) (W := 0) (rm2 l Z a0 hw [] j1 h0 n0 (Nat.le_trans Z0 K0.1) ) (by decide) (by decide) e0 (g := (mkF m 1 #[.val (.long j1), .second, .unset, .unset, .unset] [(.long j1)])) rfl (by rw [hml]; rfl) (argsL := [(.long j1)]) (rest := []) rfl (lenOf pd0 rfl) rfl (by show 2 * 0 + _ ≤ _; exact Nat.le_of_eq rfl) (hb hby at_1) (by decide) (by decide)
  have N1 := Fr.app N0 M1
  refine own_go st1 ?_
  show own_Fin p.tables e below _ (T1.setTop (mkF m 4 #[.val (.long j1), .second, .unset, .unset, .unset] [(.long (f2 j1))]))
  refine own_go (fun _ k => XT.lstoreN X1.here hx rfl (hb hby at_4) rfl (l' := #[.val (.long j1), .second, .val (.long (f2 j1)), .second, .unset]) rfl k) ?_
  show own_Fin p.tables e below _ (T1.setTop (mkF m 5 #[.val (.long j1), .second, .val (.long (f2 j1)), .second, .unset] []))
  refine own_go (fun _ k => XT.lloadN X1.here hx rfl (hb hby at_5) rfl k) ?_
  show own_Fin p.tables e below _ (T1.setTop (mkF m 6 #[.val (.long j1), .second, .val (.long (f2 j1)), .second, .unset] [(.long (f2 j1))]))
  refine own_go (fun _ k => X1.ldc2J hx hown (mvT hZ (hw _ (List.mem_of_getElem? (i := 15) rfl))) rfl (hb hby at_6) k) ?_
  show own_Fin p.tables e below _ (T1.setTop (mkF m 9 #[.val (.long j1), .second, .val (.long (f2 j1)), .second, .unset] [(.long (9187201950435737471 : Int64)), (.long (f2 j1))]))
  refine own_go (fun _ k => XT.land X1.here hx rfl (hb hby at_9) rfl k) ?_
  show own_Fin p.tables e below _ (T1.setTop (mkF m 10 #[.val (.long j1), .second, .val (.long (f2 j1)), .second, .unset] [(.long ((f2 j1) &&& (9187201950435737471 : Int64)))]))
  refine own_go (fun _ k => XT.lconstV X1.here hx rfl (0 : Int64) (hb hby at_10) (by decide) k) ?_
  show own_Fin p.tables e below _ (T1.setTop (mkF m 11 #[.val (.long j1), .second, .val (.long (f2 j1)), .second, .unset] [(.long (0 : Int64)), (.long ((f2 j1) &&& (9187201950435737471 : Int64)))]))
  refine own_go (fun _ k => XT.lcmp X1.here hx rfl (hb hby at_11) rfl k) ?_
  show own_Fin p.tables e below _ (T1.setTop (mkF m 12 #[.val (.long j1), .second, .val (.long (f2 j1)), .second, .unset] [(.int (XT.cmpL ((f2 j1) &&& (9187201950435737471 : Int64)) (0 : Int64)))]))
  by_cases hc2 : ((f2 j1) &&& (9187201950435737471 : Int64)) = (0 : Int64)
  · refine own_go (fun _ k => XS.ifYes X1.here hx rfl (pc0 := 12) (pc' := 17) rfl (hb hby at_12) rfl (XT.ll_eq_t hc2) (by decide) (by decide) k) ?_
    show own_Fin p.tables e below _ (T1.setTop (mkF m 17 #[.val (.long j1), .second, .val (.long (f2 j1)), .second, .unset] []))
    refine own_go (fun _ k => XT.lloadN X1.here hx rfl (hb hby at_17) rfl k) ?_
    show own_Fin p.tables e below _ (T1.setTop (mkF m 18 #[.val (.long j1), .second, .val (.long (f2 j1)), .second, .unset] [(.long j1)]))
    refine own_go (fun _ k => XT.lloadN X1.here hx rfl (hb hby at_18) rfl k) ?_
    show own_Fin p.tables e below _ (T1.setTop (mkF m 19 #[.val (.long j1), .second, .val (.long (f2 j1)), .second, .unset] [(.long (f2 j1)), (.long j1)]))
    refine own_go (fun _ k => XT.iconstV X1.here hx rfl (0 : Int32) (hb hby at_19) (by decide) k) ?_
    show own_Fin p.tables e below _ (T1.setTop (mkF m 20 #[.val (.long j1), .second, .val (.long (f2 j1)), .second, .unset] [(.int (0 : Int32)), (.long (f2 j1)), (.long j1)]))
    refine own_go (fun _ k => XT.iconstV X1.here hx rfl (0 : Int32) (hb hby at_20) (by decide) k) ?_
    show own_Fin p.tables e below _ (T1.setTop (mkF m 21 #[.val (.long j1), .second, .val (.long (f2 j1)), .second, .unset] [(.int (0 : Int32)), (.int (0 : Int32)), (.long (f2 j1)), (.long j1)]))
    obtain ⟨_, T3, L3, X3, ⟨rfl, M3, e3⟩, st3⟩ := own_callS X1 hx hZ hown (hw _ (List.mem_of_getElem? (i := 16) rfl)) (hw _ (List.mem_of_getElem? (i := 17) rfl)) (hw _ (List.mem_of_getElem? (i := 18) rfl)) (hw _ (List.mem_of_getElem? (i := 19) rfl)) (by decide) (W := 0) (rm4 l Z a0 hw [] j1 (f2 j1) (0 : Int32) (0 : Int32) h0 n0 (Nat.le_trans Z0 K0.1) ) (by decide) (by decide) e1 (g := (mkF m 21 #[.val (.long j1), .second, .val (.long (f2 j1)), .second, .unset] [(.int (0 : Int32)), (.int (0 : Int32)), (.long (f2 j1)), (.long j1)])) rfl (by rw [hml]; rfl) (argsL := [(.long j1), (.long (f2 j1)), (.int (0 : Int32)), (.int (0 : Int32))]) (rest := []) rfl (lenOf pd2 rfl) rfl (by show 2 * 0 + _ ≤ _; exact Nat.le_of_eq rfl) (hb hby at_21) (by decide) (by decide)
    have N3 := Fr.app N1 M3
    refine own_go st3 ?_
    show own_Fin p.tables e below _ (T3.setTop (mkF m 24 #[.val (.long j1), .second, .val (.long (f2 j1)), .second, .unset] [(.int (f4 j1 (f2 j1) (0 : Int32) (0 : Int32)))]))
    refine own_go (fun _ k => XS.istore X3.here hx rfl (hb hby at_24) rfl (l' := #[.val (.long j1), .second, .val (.long (f2 j1)), .second, .val (.int (f4 j1 (f2 j1) (0 : Int32) (0 : Int32)))]) rfl k) ?_
    show own_Fin p.tables e below _ (T3.setTop (mkF m 26 #[.val (.long j1), .second, .val (.long (f2 j1)), .second, .val (.int (f4 j1 (f2 j1) (0 : Int32) (0 : Int32)))] []))
    refine own_go (fun _ k => XT.lloadN X3.here hx rfl (hb hby at_26) rfl k) ?_
    show own_Fin p.tables e below _ (T3.setTop (mkF m 27 #[.val (.long j1), .second, .val (.long (f2 j1)), .second, .val (.int (f4 j1 (f2 j1) (0 : Int32) (0 : Int32)))] [(.long j1)]))
    refine own_go (fun _ k => XT.lloadN X3.here hx rfl (hb hby at_27) rfl k) ?_
    show own_Fin p.tables e below _ (T3.setTop (mkF m 28 #[.val (.long j1), .second, .val (.long (f2 j1)), .second, .val (.int (f4 j1 (f2 j1) (0 : Int32) (0 : Int32)))] [(.long (f2 j1)), (.long j1)]))
    refine own_go (fun _ k => XT.iconstV X3.here hx rfl (1 : Int32) (hb hby at_28) (by decide) k) ?_
    show own_Fin p.tables e below _ (T3.setTop (mkF m 29 #[.val (.long j1), .second, .val (.long (f2 j1)), .second, .val (.int (f4 j1 (f2 j1) (0 : Int32) (0 : Int32)))] [(.int (1 : Int32)), (.long (f2 j1)), (.long j1)]))
    refine own_go (fun _ k => XS.iload X3.here hx rfl (hb hby at_29) rfl k) ?_
    show own_Fin p.tables e below _ (T3.setTop (mkF m 31 #[.val (.long j1), .second, .val (.long (f2 j1)), .second, .val (.int (f4 j1 (f2 j1) (0 : Int32) (0 : Int32)))] [(.int (f4 j1 (f2 j1) (0 : Int32) (0 : Int32))), (.int (1 : Int32)), (.long (f2 j1)), (.long j1)]))
    obtain ⟨_, T4, L4, X4, ⟨rfl, M4, e4⟩, st4⟩ := own_callS X3 hx hZ hown (hw _ (List.mem_of_getElem? (i := 16) rfl)) (hw _ (List.mem_of_getElem? (i := 17) rfl)) (hw _ (List.mem_of_getElem? (i := 18) rfl)) (hw _ (List.mem_of_getElem? (i := 19) rfl)) (by decide) (W := 0) (rm4 l Z a0 hw [] j1 (f2 j1) (1 : Int32) (f4 j1 (f2 j1) (0 : Int32) (0 : Int32)) h0 n0 (Nat.le_trans Z0 K0.1) ) (by decide) (by decide) e3 (g := (mkF m 31 #[.val (.long j1), .second, .val (.long (f2 j1)), .second, .val (.int (f4 j1 (f2 j1) (0 : Int32) (0 : Int32)))] [(.int (f4 j1 (f2 j1) (0 : Int32) (0 : Int32))), (.int (1 : Int32)), (.long (f2 j1)), (.long j1)])) rfl (by rw [hml]; rfl) (argsL := [(.long j1), (.long (f2 j1)), (.int (1 : Int32)), (.int (f4 j1 (f2 j1) (0 : Int32) (0 : Int32)))]) (rest := []) rfl (lenOf pd2 rfl) rfl (by show 2 * 0 + _ ≤ _; exact Nat.le_of_eq rfl) (hb hby at_31) (by decide) (by decide)
    have N4 := Fr.app N3 M4
    refine own_go st4 ?_
    show own_Fin p.tables e below _ (T4.setTop (mkF m 34 #[.val (.long j1), .second, .val (.long (f2 j1)), .second, .val (.int (f4 j1 (f2 j1) (0 : Int32) (0 : Int32)))] [(.int (f4 j1 (f2 j1) (1 : Int32) (f4 j1 (f2 j1) (0 : Int32) (0 : Int32))))]))
    refine own_go (fun _ k => XS.istore X4.here hx rfl (hb hby at_34) rfl (l' := #[.val (.long j1), .second, .val (.long (f2 j1)), .second, .val (.int (f4 j1 (f2 j1) (1 : Int32) (f4 j1 (f2 j1) (0 : Int32) (0 : Int32))))]) rfl k) ?_
    show own_Fin p.tables e below _ (T4.setTop (mkF m 36 #[.val (.long j1), .second, .val (.long (f2 j1)), .second, .val (.int (f4 j1 (f2 j1) (1 : Int32) (f4 j1 (f2 j1) (0 : Int32) (0 : Int32))))] []))
    refine own_go (fun _ k => XT.lloadN X4.here hx rfl (hb hby at_36) rfl k) ?_
    show own_Fin p.tables e below _ (T4.setTop (mkF m 37 #[.val (.long j1), .second, .val (.long (f2 j1)), .second, .val (.int (f4 j1 (f2 j1) (1 : Int32) (f4 j1 (f2 j1) (0 : Int32) (0 : Int32))))] [(.long j1)]))
    refine own_go (fun _ k => XT.lloadN X4.here hx rfl (hb hby at_37) rfl k) ?_
    show own_Fin p.tables e below _ (T4.setTop (mkF m 38 #[.val (.long j1), .second, .val (.long (f2 j1)), .second, .val (.int (f4 j1 (f2 j1) (1 : Int32) (f4 j1 (f2 j1) (0 : Int32) (0 : Int32))))] [(.long (f2 j1)), (.long j1)]))
    refine own_go (fun _ k => XT.iconstV X4.here hx rfl (2 : Int32) (hb hby at_38) (by decide) k) ?_
    show own_Fin p.tables e below _ (T4.setTop (mkF m 39 #[.val (.long j1), .second, .val (.long (f2 j1)), .second, .val (.int (f4 j1 (f2 j1) (1 : Int32) (f4 j1 (f2 j1) (0 : Int32) (0 : Int32))))] [(.int (2 : Int32)), (.long (f2 j1)), (.long j1)]))
    refine own_go (fun _ k => XS.iload X4.here hx rfl (hb hby at_39) rfl k) ?_
    show own_Fin p.tables e below _ (T4.setTop (mkF m 41 #[.val (.long j1), .second, .val (.long (f2 j1)), .second, .val (.int (f4 j1 (f2 j1) (1 : Int32) (f4 j1 (f2 j1) (0 : Int32) (0 : Int32))))] [(.int (f4 j1 (f2 j1) (1 : Int32) (f4 j1 (f2 j1) (0 : Int32) (0 : Int32)))), (.int (2 : Int32)), (.long (f2 j1)), (.long j1)]))
    obtain ⟨_, T5, L5, X5, ⟨rfl, M5, e5⟩, st5⟩ := own_callS X4 hx hZ hown (hw _ (List.mem_of_getElem? (i := 16) rfl)) (hw _ (List.mem_of_getElem? (i := 17) rfl)) (hw _ (List.mem_of_getElem? (i := 18) rfl)) (hw _ (List.mem_of_getElem? (i := 19) rfl)) (by decide) (W := 0) (rm4 l Z a0 hw [] j1 (f2 j1) (2 : Int32) (f4 j1 (f2 j1) (1 : Int32) (f4 j1 (f2 j1) (0 : Int32) (0 : Int32))) h0 n0 (Nat.le_trans Z0 K0.1) ) (by decide) (by decide) e4 (g := (mkF m 41 #[.val (.long j1), .second, .val (.long (f2 j1)), .second, .val (.int (f4 j1 (f2 j1) (1 : Int32) (f4 j1 (f2 j1) (0 : Int32) (0 : Int32))))] [(.int (f4 j1 (f2 j1) (1 : Int32) (f4 j1 (f2 j1) (0 : Int32) (0 : Int32)))), (.int (2 : Int32)), (.long (f2 j1)), (.long j1)])) rfl (by rw [hml]; rfl) (argsL := [(.long j1), (.long (f2 j1)), (.int (2 : Int32)), (.int (f4 j1 (f2 j1) (1 : Int32) (f4 j1 (f2 j1) (0 : Int32) (0 : Int32))))]) (rest := []) rfl (lenOf pd2 rfl) rfl (by show 2 * 0 + _ ≤ _; exact Nat.le_of_eq rfl) (hb hby at_41) (by decide) (by decide)
    have N5 := Fr.app N4 M5
    refine own_go st5 ?_
    show own_Fin p.tables e below _ (T5.setTop (mkF m 44 #[.val (.long j1), .second, .val (.long (f2 j1)), .second, .val (.int (f4 j1 (f2 j1) (1 : Int32) (f4 j1 (f2 j1) (0 : Int32) (0 : Int32))))] [(.int (f4 j1 (f2 j1) (2 : Int32) (f4 j1 (f2 j1) (1 : Int32) (f4 j1 (f2 j1) (0 : Int32) (0 : Int32)))))]))
    refine own_go (fun _ k => XS.istore X5.here hx rfl (hb hby at_44) rfl (l' := #[.val (.long j1), .second, .val (.long (f2 j1)), .second, .val (.int (f4 j1 (f2 j1) (2 : Int32) (f4 j1 (f2 j1) (1 : Int32) (f4 j1 (f2 j1) (0 : Int32) (0 : Int32)))))]) rfl k) ?_
    show own_Fin p.tables e below _ (T5.setTop (mkF m 46 #[.val (.long j1), .second, .val (.long (f2 j1)), .second, .val (.int (f4 j1 (f2 j1) (2 : Int32) (f4 j1 (f2 j1) (1 : Int32) (f4 j1 (f2 j1) (0 : Int32) (0 : Int32)))))] []))
    refine own_go (fun _ k => XT.lloadN X5.here hx rfl (hb hby at_46) rfl k) ?_
    show own_Fin p.tables e below _ (T5.setTop (mkF m 47 #[.val (.long j1), .second, .val (.long (f2 j1)), .second, .val (.int (f4 j1 (f2 j1) (2 : Int32) (f4 j1 (f2 j1) (1 : Int32) (f4 j1 (f2 j1) (0 : Int32) (0 : Int32)))))] [(.long j1)]))
    refine own_go (fun _ k => XT.lloadN X5.here hx rfl (hb hby at_47) rfl k) ?_
    show own_Fin p.tables e below _ (T5.setTop (mkF m 48 #[.val (.long j1), .second, .val (.long (f2 j1)), .second, .val (.int (f4 j1 (f2 j1) (2 : Int32) (f4 j1 (f2 j1) (1 : Int32) (f4 j1 (f2 j1) (0 : Int32) (0 : Int32)))))] [(.long (f2 j1)), (.long j1)]))
    refine own_go (fun _ k => XT.iconstV X5.here hx rfl (3 : Int32) (hb hby at_48) (by decide) k) ?_
    show own_Fin p.tables e below _ (T5.setTop (mkF m 49 #[.val (.long j1), .second, .val (.long (f2 j1)), .second, .val (.int (f4 j1 (f2 j1) (2 : Int32) (f4 j1 (f2 j1) (1 : Int32) (f4 j1 (f2 j1) (0 : Int32) (0 : Int32)))))] [(.int (3 : Int32)), (.long (f2 j1)), (.long j1)]))
    refine own_go (fun _ k => XS.iload X5.here hx rfl (hb hby at_49) rfl k) ?_
    show own_Fin p.tables e below _ (T5.setTop (mkF m 51 #[.val (.long j1), .second, .val (.long (f2 j1)), .second, .val (.int (f4 j1 (f2 j1) (2 : Int32) (f4 j1 (f2 j1) (1 : Int32) (f4 j1 (f2 j1) (0 : Int32) (0 : Int32)))))] [(.int (f4 j1 (f2 j1) (2 : Int32) (f4 j1 (f2 j1) (1 : Int32) (f4 j1 (f2 j1) (0 : Int32) (0 : Int32))))), (.int (3 : Int32)), (.long (f2 j1)), (.long j1)]))
    obtain ⟨_, T6, L6, X6, ⟨rfl, M6, e6⟩, st6⟩ := own_callS X5 hx hZ hown (hw _ (List.mem_of_getElem? (i := 16) rfl)) (hw _ (List.mem_of_getElem? (i := 17) rfl)) (hw _ (List.mem_of_getElem? (i := 18) rfl)) (hw _ (List.mem_of_getElem? (i := 19) rfl)) (by decide) (W := 0) (rm4 l Z a0 hw [] j1 (f2 j1) (3 : Int32) (f4 j1 (f2 j1) (2 : Int32) (f4 j1 (f2 j1) (1 : Int32) (f4 j1 (f2 j1) (0 : Int32) (0 : Int32)))) h0 n0 (Nat.le_trans Z0 K0.1) ) (by decide) (by decide) e5 (g := (mkF m 51 #[.val (.long j1), .second, .val (.long (f2 j1)), .second, .val (.int (f4 j1 (f2 j1) (2 : Int32) (f4 j1 (f2 j1) (1 : Int32) (f4 j1 (f2 j1) (0 : Int32) (0 : Int32)))))] [(.int (f4 j1 (f2 j1) (2 : Int32) (f4 j1 (f2 j1) (1 : Int32) (f4 j1 (f2 j1) (0 : Int32) (0 : Int32))))), (.int (3 : Int32)), (.long (f2 j1)), (.long j1)])) rfl (by rw [hml]; rfl) (argsL := [(.long j1), (.long (f2 j1)), (.int (3 : Int32)), (.int (f4 j1 (f2 j1) (2 : Int32) (f4 j1 (f2 j1) (1 : Int32) (f4 j1 (f2 j1) (0 : Int32) (0 : Int32)))))]) (rest := []) rfl (lenOf pd2 rfl) rfl (by show 2 * 0 + _ ≤ _; exact Nat.le_of_eq rfl) (hb hby at_51) (by decide) (by decide)
    have N6 := Fr.app N5 M6
    refine own_go st6 ?_
    show own_Fin p.tables e below _ (T6.setTop (mkF m 54 #[.val (.long j1), .second, .val (.long (f2 j1)), .second, .val (.int (f4 j1 (f2 j1) (2 : Int32) (f4 j1 (f2 j1) (1 : Int32) (f4 j1 (f2 j1) (0 : Int32) (0 : Int32)))))] [(.int (f4 j1 (f2 j1) (3 : Int32) (f4 j1 (f2 j1) (2 : Int32) (f4 j1 (f2 j1) (1 : Int32) (f4 j1 (f2 j1) (0 : Int32) (0 : Int32))))))]))
    refine own_go (fun _ k => XS.istore X6.here hx rfl (hb hby at_54) rfl (l' := #[.val (.long j1), .second, .val (.long (f2 j1)), .second, .val (.int (f4 j1 (f2 j1) (3 : Int32) (f4 j1 (f2 j1) (2 : Int32) (f4 j1 (f2 j1) (1 : Int32) (f4 j1 (f2 j1) (0 : Int32) (0 : Int32))))))]) rfl k) ?_
    show own_Fin p.tables e below _ (T6.setTop (mkF m 56 #[.val (.long j1), .second, .val (.long (f2 j1)), .second, .val (.int (f4 j1 (f2 j1) (3 : Int32) (f4 j1 (f2 j1) (2 : Int32) (f4 j1 (f2 j1) (1 : Int32) (f4 j1 (f2 j1) (0 : Int32) (0 : Int32))))))] []))
    refine own_go (fun _ k => XT.lloadN X6.here hx rfl (hb hby at_56) rfl k) ?_
    show own_Fin p.tables e below _ (T6.setTop (mkF m 57 #[.val (.long j1), .second, .val (.long (f2 j1)), .second, .val (.int (f4 j1 (f2 j1) (3 : Int32) (f4 j1 (f2 j1) (2 : Int32) (f4 j1 (f2 j1) (1 : Int32) (f4 j1 (f2 j1) (0 : Int32) (0 : Int32))))))] [(.long j1)]))
    refine own_go (fun _ k => XT.lloadN X6.here hx rfl (hb hby at_57) rfl k) ?_
    show own_Fin p.tables e below _ (T6.setTop (mkF m 58 #[.val (.long j1), .second, .val (.long (f2 j1)), .second, .val (.int (f4 j1 (f2 j1) (3 : Int32) (f4 j1 (f2 j1) (2 : Int32) (f4 j1 (f2 j1) (1 : Int32) (f4 j1 (f2 j1) (0 : Int32) (0 : Int32))))))] [(.long (f2 j1)), (.long j1)]))
    refine own_go (fun _ k => XT.iconstV X6.here hx rfl (4 : Int32) (hb hby at_58) (by decide) k) ?_
    show own_Fin p.tables e below _ (T6.setTop (mkF m 59 #[.val (.long j1), .second, .val (.long (f2 j1)), .second, .val (.int (f4 j1 (f2 j1) (3 : Int32) (f4 j1 (f2 j1) (2 : Int32) (f4 j1 (f2 j1) (1 : Int32) (f4 j1 (f2 j1) (0 : Int32) (0 : Int32))))))] [(.int (4 : Int32)), (.long (f2 j1)), (.long j1)]))
    refine own_go (fun _ k => XS.iload X6.here hx rfl (hb hby at_59) rfl k) ?_
    show own_Fin p.tables e below _ (T6.setTop (mkF m 61 #[.val (.long j1), .second, .val (.long (f2 j1)), .second, .val (.int (f4 j1 (f2 j1) (3 : Int32) (f4 j1 (f2 j1) (2 : Int32) (f4 j1 (f2 j1) (1 : Int32) (f4 j1 (f2 j1) (0 : Int32) (0 : Int32))))))] [(.int (f4 j1 (f2 j1) (3 : Int32) (f4 j1 (f2 j1) (2 : Int32) (f4 j1 (f2 j1) (1 : Int32) (f4 j1 (f2 j1) (0 : Int32) (0 : Int32)))))), (.int (4 : Int32)), (.long (f2 j1)), (.long j1)]))
    obtain ⟨_, T7, L7, X7, ⟨rfl, M7, e7⟩, st7⟩ := own_callS X6 hx hZ hown (hw _ (List.mem_of_getElem? (i := 16) rfl)) (hw _ (List.mem_of_getElem? (i := 17) rfl)) (hw _ (List.mem_of_getElem? (i := 18) rfl)) (hw _ (List.mem_of_getElem? (i := 19) rfl)) (by decide) (W := 0) (rm4 l Z a0 hw [] j1 (f2 j1) (4 : Int32) (f4 j1 (f2 j1) (3 : Int32) (f4 j1 (f2 j1) (2 : Int32) (f4 j1 (f2 j1) (1 : Int32) (f4 j1 (f2 j1) (0 : Int32) (0 : Int32))))) h0 n0 (Nat.le_trans Z0 K0.1) ) (by decide) (by decide) e6 (g := (mkF m 61 #[.val (.long j1), .second, .val (.long (f2 j1)), .second, .val (.int (f4 j1 (f2 j1) (3 : Int32) (f4 j1 (f2 j1) (2 : Int32) (f4 j1 (f2 j1) (1 : Int32) (f4 j1 (f2 j1) (0 : Int32) (0 : Int32))))))] [(.int (f4 j1 (f2 j1) (3 : Int32) (f4 j1 (f2 j1) (2 : Int32) (f4 j1 (f2 j1) (1 : Int32) (f4 j1 (f2 j1) (0 : Int32) (0 : Int32)))))), (.int (4 : Int32)), (.long (f2 j1)), (.long j1)])) rfl (by rw [hml]; rfl) (argsL := [(.long j1), (.long (f2 j1)), (.int (4 : Int32)), (.int (f4 j1 (f2 j1) (3 : Int32) (f4 j1 (f2 j1) (2 : Int32) (f4 j1 (f2 j1) (1 : Int32) (f4 j1 (f2 j1) (0 : Int32) (0 : Int32))))))]) (rest := []) rfl (lenOf pd2 rfl) rfl (by show 2 * 0 + _ ≤ _; exact Nat.le_of_eq rfl) (hb hby at_61) (by decide) (by decide)
    have N7 := Fr.app N6 M7
    refine own_go st7 ?_
    show own_Fin p.tables e below _ (T7.setTop (mkF m 64 #[.val (.long j1), .second, .val (.long (f2 j1)), .second, .val (.int (f4 j1 (f2 j1) (3 : Int32) (f4 j1 (f2 j1) (2 : Int32) (f4 j1 (f2 j1) (1 : Int32) (f4 j1 (f2 j1) (0 : Int32) (0 : Int32))))))] [(.int (f4 j1 (f2 j1) (4 : Int32) (f4 j1 (f2 j1) (3 : Int32) (f4 j1 (f2 j1) (2 : Int32) (f4 j1 (f2 j1) (1 : Int32) (f4 j1 (f2 j1) (0 : Int32) (0 : Int32)))))))]))
    refine own_go (fun _ k => XS.istore X7.here hx rfl (hb hby at_64) rfl (l' := #[.val (.long j1), .second, .val (.long (f2 j1)), .second, .val (.int (f4 j1 (f2 j1) (4 : Int32) (f4 j1 (f2 j1) (3 : Int32) (f4 j1 (f2 j1) (2 : Int32) (f4 j1 (f2 j1) (1 : Int32) (f4 j1 (f2 j1) (0 : Int32) (0 : Int32)))))))]) rfl k) ?_
    show own_Fin p.tables e below _ (T7.setTop (mkF m 66 #[.val (.long j1), .second, .val (.long (f2 j1)), .second, .val (.int (f4 j1 (f2 j1) (4 : Int32) (f4 j1 (f2 j1) (3 : Int32) (f4 j1 (f2 j1) (2 : Int32) (f4 j1 (f2 j1) (1 : Int32) (f4 j1 (f2 j1) (0 : Int32) (0 : Int32)))))))] []))
    refine own_go (fun _ k => XT.lloadN X7.here hx rfl (hb hby at_66) rfl k) ?_
    show own_Fin p.tables e below _ (T7.setTop (mkF m 67 #[.val (.long j1), .second, .val (.long (f2 j1)), .second, .val (.int (f4 j1 (f2 j1) (4 : Int32) (f4 j1 (f2 j1) (3 : Int32) (f4 j1 (f2 j1) (2 : Int32) (f4 j1 (f2 j1) (1 : Int32) (f4 j1 (f2 j1) (0 : Int32) (0 : Int32)))))))] [(.long j1)]))
    refine own_go (fun _ k => XT.lloadN X7.here hx rfl (hb hby at_67) rfl k) ?_
    show own_Fin p.tables e below _ (T7.setTop (mkF m 68 #[.val (.long j1), .second, .val (.long (f2 j1)), .second, .val (.int (f4 j1 (f2 j1) (4 : Int32) (f4 j1 (f2 j1) (3 : Int32) (f4 j1 (f2 j1) (2 : Int32) (f4 j1 (f2 j1) (1 : Int32) (f4 j1 (f2 j1) (0 : Int32) (0 : Int32)))))))] [(.long (f2 j1)), (.long j1)]))
    refine own_go (fun _ k => XT.iconstV X7.here hx rfl (5 : Int32) (hb hby at_68) (by decide) k) ?_
    show own_Fin p.tables e below _ (T7.setTop (mkF m 69 #[.val (.long j1), .second, .val (.long (f2 j1)), .second, .val (.int (f4 j1 (f2 j1) (4 : Int32) (f4 j1 (f2 j1) (3 : Int32) (f4 j1 (f2 j1) (2 : Int32) (f4 j1 (f2 j1) (1 : Int32) (f4 j1 (f2 j1) (0 : Int32) (0 : Int32)))))))] [(.int (5 : Int32)), (.long (f2 j1)), (.long j1)]))
    refine own_go (fun _ k => XS.iload X7.here hx rfl (hb hby at_69) rfl k) ?_
    show own_Fin p.tables e below _ (T7.setTop (mkF m 71 #[.val (.long j1), .second, .val (.long (f2 j1)), .second, .val (.int (f4 j1 (f2 j1) (4 : Int32) (f4 j1 (f2 j1) (3 : Int32) (f4 j1 (f2 j1) (2 : Int32) (f4 j1 (f2 j1) (1 : Int32) (f4 j1 (f2 j1) (0 : Int32) (0 : Int32)))))))] [(.int (f4 j1 (f2 j1) (4 : Int32) (f4 j1 (f2 j1) (3 : Int32) (f4 j1 (f2 j1) (2 : Int32) (f4 j1 (f2 j1) (1 : Int32) (f4 j1 (f2 j1) (0 : Int32) (0 : Int32))))))), (.int (5 : Int32)), (.long (f2 j1)), (.long j1)]))
    obtain ⟨_, T8, L8, X8, ⟨rfl, M8, e8⟩, st8⟩ := own_callS X7 hx hZ hown (hw _ (List.mem_of_getElem? (i := 16) rfl)) (hw _ (List.mem_of_getElem? (i := 17) rfl)) (hw _ (List.mem_of_getElem? (i := 18) rfl)) (hw _ (List.mem_of_getElem? (i := 19) rfl)) (by decide) (W := 0) (rm4 l Z a0 hw [] j1 (f2 j1) (5 : Int32) (f4 j1 (f2 j1) (4 : Int32) (f4 j1 (f2 j1) (3 : Int32) (f4 j1 (f2 j1) (2 : Int32) (f4 j1 (f2 j1) (1 : Int32) (f4 j1 (f2 j1) (0 : Int32) (0 : Int32)))))) h0 n0 (Nat.le_trans Z0 K0.1) ) (by decide) (by decide) e7 (g := (mkF m 71 #[.val (.long j1), .second, .val (.long (f2 j1)), .second, .val (.int (f4 j1 (f2 j1) (4 : Int32) (f4 j1 (f2 j1) (3 : Int32) (f4 j1 (f2 j1) (2 : Int32) (f4 j1 (f2 j1) (1 : Int32) (f4 j1 (f2 j1) (0 : Int32) (0 : Int32)))))))] [(.int (f4 j1 (f2 j1) (4 : Int32) (f4 j1 (f2 j1) (3 : Int32) (f4 j1 (f2 j1) (2 : Int32) (f4 j1 (f2 j1) (1 : Int32) (f4 j1 (f2 j1) (0 : Int32) (0 : Int32))))))), (.int (5 : Int32)), (.long (f2 j1)), (.long j1)])) rfl (by rw [hml]; rfl) (argsL := [(.long j1), (.long (f2 j1)), (.int (5 : Int32)), (.int (f4 j1 (f2 j1) (4 : Int32) (f4 j1 (f2 j1) (3 : Int32) (f4 j1 (f2 j1) (2 : Int32) (f4 j1 (f2 j1) (1 : Int32) (f4 j1 (f2 j1) (0 : Int32) (0 : Int32)))))))]) (rest := []) rfl (lenOf pd2 rfl) rfl (by show 2 * 0 + _ ≤ _; exact Nat.le_of_eq rfl) (hb hby at_71) (by decide) (by decide)
    have N8 := Fr.app N7 M8
    refine own_go st8 ?_
    show own_Fin p.tables e below _ (T8.setTop (mkF m 74 #[.val (.long j1), .second, .val (.long (f2 j1)), .second, .val (.int (f4 j1 (f2 j1) (4 : Int32) (f4 j1 (f2 j1) (3 : Int32) (f4 j1 (f2 j1) (2 : Int32) (f4 j1 (f2 j1) (1 : Int32) (f4 j1 (f2 j1) (0 : Int32) (0 : Int32)))))))] [(.int (f4 j1 (f2 j1) (5 : Int32) (f4 j1 (f2 j1) (4 : Int32) (f4 j1 (f2 j1) (3 : Int32) (f4 j1 (f2 j1) (2 : Int32) (f4 j1 (f2 j1) (1 : Int32) (f4 j1 (f2 j1) (0 : Int32) (0 : Int32))))))))]))
    refine own_go (fun _ k => XS.istore X8.here hx rfl (hb hby at_74) rfl (l' := #[.val (.long j1), .second, .val (.long (f2 j1)), .second, .val (.int (f4 j1 (f2 j1) (5 : Int32) (f4 j1 (f2 j1) (4 : Int32) (f4 j1 (f2 j1) (3 : Int32) (f4 j1 (f2 j1) (2 : Int32) (f4 j1 (f2 j1) (1 : Int32) (f4 j1 (f2 j1) (0 : Int32) (0 : Int32))))))))]) rfl k) ?_
    show own_Fin p.tables e below _ (T8.setTop (mkF m 76 #[.val (.long j1), .second, .val (.long (f2 j1)), .second, .val (.int (f4 j1 (f2 j1) (5 : Int32) (f4 j1 (f2 j1) (4 : Int32) (f4 j1 (f2 j1) (3 : Int32) (f4 j1 (f2 j1) (2 : Int32) (f4 j1 (f2 j1) (1 : Int32) (f4 j1 (f2 j1) (0 : Int32) (0 : Int32))))))))] []))
    refine own_go (fun _ k => XT.lloadN X8.here hx rfl (hb hby at_76) rfl k) ?_
    show own_Fin p.tables e below _ (T8.setTop (mkF m 77 #[.val (.long j1), .second, .val (.long (f2 j1)), .second, .val (.int (f4 j1 (f2 j1) (5 : Int32) (f4 j1 (f2 j1) (4 : Int32) (f4 j1 (f2 j1) (3 : Int32) (f4 j1 (f2 j1) (2 : Int32) (f4 j1 (f2 j1) (1 : Int32) (f4 j1 (f2 j1) (0 : Int32) (0 : Int32))))))))] [(.long j1)]))
    refine own_go (fun _ k => XT.lloadN X8.here hx rfl (hb hby at_77) rfl k) ?_
    show own_Fin p.tables e below _ (T8.setTop (mkF m 78 #[.val (.long j1), .second, .val (.long (f2 j1)), .second, .val (.int (f4 j1 (f2 j1) (5 : Int32) (f4 j1 (f2 j1) (4 : Int32) (f4 j1 (f2 j1) (3 : Int32) (f4 j1 (f2 j1) (2 : Int32) (f4 j1 (f2 j1) (1 : Int32) (f4 j1 (f2 j1) (0 : Int32) (0 : Int32))))))))] [(.long (f2 j1)), (.long j1)]))
    refine own_go (fun _ k => XT.bipushV X8.here hx rfl (6 : Int32) (hb hby at_78) (by decide) k) ?_
    show own_Fin p.tables e below _ (T8.setTop (mkF m 80 #[.val (.long j1), .second, .val (.long (f2 j1)), .second, .val (.int (f4 j1 (f2 j1) (5 : Int32) (f4 j1 (f2 j1) (4 : Int32) (f4 j1 (f2 j1) (3 : Int32) (f4 j1 (f2 j1) (2 : Int32) (f4 j1 (f2 j1) (1 : Int32) (f4 j1 (f2 j1) (0 : Int32) (0 : Int32))))))))] [(.int (6 : Int32)), (.long (f2 j1)), (.long j1)]))
    refine own_go (fun _ k => XS.iload X8.here hx rfl (hb hby at_80) rfl k) ?_
    show own_Fin p.tables e below _ (T8.setTop (mkF m 82 #[.val (.long j1), .second, .val (.long (f2 j1)), .second, .val (.int (f4 j1 (f2 j1) (5 : Int32) (f4 j1 (f2 j1) (4 : Int32) (f4 j1 (f2 j1) (3 : Int32) (f4 j1 (f2 j1) (2 : Int32) (f4 j1 (f2 j1) (1 : Int32) (f4 j1 (f2 j1) (0 : Int32) (0 : Int32))))))))] [(.int (f4 j1 (f2 j1) (5 : Int32) (f4 j1 (f2 j1) (4 : Int32) (f4 j1 (f2 j1) (3 : Int32) (f4 j1 (f2 j1) (2 : Int32) (f4 j1 (f2 j1) (1 : Int32) (f4 j1 (f2 j1) (0 : Int32) (0 : Int32)))))))), (.int (6 : Int32)), (.long (f2 j1)), (.long j1)]))
    obtain ⟨_, T9, L9, X9, ⟨rfl, M9, e9⟩, st9⟩ := own_callS X8 hx hZ hown (hw _ (List.mem_of_getElem? (i := 16) rfl)) (hw _ (List.mem_of_getElem? (i := 17) rfl)) (hw _ (List.mem_of_getElem? (i := 18) rfl)) (hw _ (List.mem_of_getElem? (i := 19) rfl)) (by decide) (W := 0) (rm4 l Z a0 hw [] j1 (f2 j1) (6 : Int32) (f4 j1 (f2 j1) (5 : Int32) (f4 j1 (f2 j1) (4 : Int32) (f4 j1 (f2 j1) (3 : Int32) (f4 j1 (f2 j1) (2 : Int32) (f4 j1 (f2 j1) (1 : Int32) (f4 j1 (f2 j1) (0 : Int32) (0 : Int32))))))) h0 n0 (Nat.le_trans Z0 K0.1) ) (by decide) (by decide) e8 (g := (mkF m 82 #[.val (.long j1), .second, .val (.long (f2 j1)), .second, .val (.int (f4 j1 (f2 j1) (5 : Int32) (f4 j1 (f2 j1) (4 : Int32) (f4 j1 (f2 j1) (3 : Int32) (f4 j1 (f2 j1) (2 : Int32) (f4 j1 (f2 j1) (1 : Int32) (f4 j1 (f2 j1) (0 : Int32) (0 : Int32))))))))] [(.int (f4 j1 (f2 j1) (5 : Int32) (f4 j1 (f2 j1) (4 : Int32) (f4 j1 (f2 j1) (3 : Int32) (f4 j1 (f2 j1) (2 : Int32) (f4 j1 (f2 j1) (1 : Int32) (f4 j1 (f2 j1) (0 : Int32) (0 : Int32)))))))), (.int (6 : Int32)), (.long (f2 j1)), (.long j1)])) rfl (by rw [hml]; rfl) (argsL := [(.long j1), (.long (f2 j1)), (.int (6 : Int32)), (.int (f4 j1 (f2 j1) (5 : Int32) (f4 j1 (f2 j1) (4 : Int32) (f4 j1 (f2 j1) (3 : Int32) (f4 j1 (f2 j1) (2 : Int32) (f4 j1 (f2 j1) (1 : Int32) (f4 j1 (f2 j1) (0 : Int32) (0 : Int32))))))))]) (rest := []) rfl (lenOf pd2 rfl) rfl (by show 2 * 0 + _ ≤ _; exact Nat.le_of_eq rfl) (hb hby at_82) (by decide) (by decide)
    have N9 := Fr.app N8 M9
    refine own_go st9 ?_
    show own_Fin p.tables e below _ (T9.setTop (mkF m 85 #[.val (.long j1), .second, .val (.long (f2 j1)), .second, .val (.int (f4 j1 (f2 j1) (5 : Int32) (f4 j1 (f2 j1) (4 : Int32) (f4 j1 (f2 j1) (3 : Int32) (f4 j1 (f2 j1) (2 : Int32) (f4 j1 (f2 j1) (1 : Int32) (f4 j1 (f2 j1) (0 : Int32) (0 : Int32))))))))] [(.int (f4 j1 (f2 j1) (6 : Int32) (f4 j1 (f2 j1) (5 : Int32) (f4 j1 (f2 j1) (4 : Int32) (f4 j1 (f2 j1) (3 : Int32) (f4 j1 (f2 j1) (2 : Int32) (f4 j1 (f2 j1) (1 : Int32) (f4 j1 (f2 j1) (0 : Int32) (0 : Int32)))))))))]))
    refine own_go (fun _ k => XS.istore X9.here hx rfl (hb hby at_85) rfl (l' := #[.val (.long j1), .second, .val (.long (f2 j1)), .second, .val (.int (f4 j1 (f2 j1) (6 : Int32) (f4 j1 (f2 j1) (5 : Int32) (f4 j1 (f2 j1) (4 : Int32) (f4 j1 (f2 j1) (3 : Int32) (f4 j1 (f2 j1) (2 : Int32) (f4 j1 (f2 j1) (1 : Int32) (f4 j1 (f2 j1) (0 : Int32) (0 : Int32)))))))))]) rfl k) ?_
    show own_Fin p.tables e below _ (T9.setTop (mkF m 87 #[.val (.long j1), .second, .val (.long (f2 j1)), .second, .val (.int (f4 j1 (f2 j1) (6 : Int32) (f4 j1 (f2 j1) (5 : Int32) (f4 j1 (f2 j1) (4 : Int32) (f4 j1 (f2 j1) (3 : Int32) (f4 j1 (f2 j1) (2 : Int32) (f4 j1 (f2 j1) (1 : Int32) (f4 j1 (f2 j1) (0 : Int32) (0 : Int32)))))))))] []))
    refine own_go (fun _ k => XT.lloadN X9.here hx rfl (hb hby at_87) rfl k) ?_
    show own_Fin p.tables e below _ (T9.setTop (mkF m 88 #[.val (.long j1), .second, .val (.long (f2 j1)), .second, .val (.int (f4 j1 (f2 j1) (6 : Int32) (f4 j1 (f2 j1) (5 : Int32) (f4 j1 (f2 j1) (4 : Int32) (f4 j1 (f2 j1) (3 : Int32) (f4 j1 (f2 j1) (2 : Int32) (f4 j1 (f2 j1) (1 : Int32) (f4 j1 (f2 j1) (0 : Int32) (0 : Int32)))))))))] [(.long j1)]))
    refine own_go (fun _ k => XT.lloadN X9.here hx rfl (hb hby at_88) rfl k) ?_
    show own_Fin p.tables e below _ (T9.setTop (mkF m 89 #[.val (.long j1), .second, .val (.long (f2 j1)), .second, .val (.int (f4 j1 (f2 j1) (6 : Int32) (f4 j1 (f2 j1) (5 : Int32) (f4 j1 (f2 j1) (4 : Int32) (f4 j1 (f2 j1) (3 : Int32) (f4 j1 (f2 j1) (2 : Int32) (f4 j1 (f2 j1) (1 : Int32) (f4 j1 (f2 j1) (0 : Int32) (0 : Int32)))))))))] [(.long (f2 j1)), (.long j1)]))
    refine own_go (fun _ k => XT.bipushV X9.here hx rfl (7 : Int32) (hb hby at_89) (by decide) k) ?_
    show own_Fin p.tables e below _ (T9.setTop (mkF m 91 #[.val (.long j1), .second, .val (.long (f2 j1)), .second, .val (.int (f4 j1 (f2 j1) (6 : Int32) (f4 j1 (f2 j1) (5 : Int32) (f4 j1 (f2 j1) (4 : Int32) (f4 j1 (f2 j1) (3 : Int32) (f4 j1 (f2 j1) (2 : Int32) (f4 j1 (f2 j1) (1 : Int32) (f4 j1 (f2 j1) (0 : Int32) (0 : Int32)))))))))] [(.int (7 : Int32)), (.long (f2 j1)), (.long j1)]))
    refine own_go (fun _ k => XS.iload X9.here hx rfl (hb hby at_91) rfl k) ?_
    show own_Fin p.tables e below _ (T9.setTop (mkF m 93 #[.val (.long j1), .second, .val (.long (f2 j1)), .second, .val (.int (f4 j1 (f2 j1) (6 : Int32) (f4 j1 (f2 j1) (5 : Int32) (f4 j1 (f2 j1) (4 : Int32) (f4 j1 (f2 j1) (3 : Int32) (f4 j1 (f2 j1) (2 : Int32) (f4 j1 (f2 j1) (1 : Int32) (f4 j1 (f2 j1) (0 : Int32) (0 : Int32)))))))))] [(.int (f4 j1 (f2 j1) (6 : Int32) (f4 j1 (f2 j1) (5 : Int32) (f4 j1 (f2 j1) (4 : Int32) (f4 j1 (f2 j1) (3 : Int32) (f4 j1 (f2 j1) (2 : Int32) (f4 j1 (f2 j1) (1 : Int32) (f4 j1 (f2 j1) (0 : Int32) (0 : Int32))))))))), (.int (7 : Int32)), (.long (f2 j1)), (.long j1)]))
    obtain ⟨_, T10, L10, X10, ⟨rfl, M10, e10⟩, st10⟩ := own_callS X9 hx hZ hown (hw _ (List.mem_of_getElem? (i := 16) rfl)) (hw _ (List.mem_of_getElem? (i := 17) rfl)) (hw _ (List.mem_of_getElem? (i := 18) rfl)) (hw _ (List.mem_of_getElem? (i := 19) rfl)) (by decide) (W := 0) (rm4 l Z a0 hw [] j1 (f2 j1) (7 : Int32) (f4 j1 (f2 j1) (6 : Int32) (f4 j1 (f2 j1) (5 : Int32) (f4 j1 (f2 j1) (4 : Int32) (f4 j1 (f2 j1) (3 : Int32) (f4 j1 (f2 j1) (2 : Int32) (f4 j1 (f2 j1) (1 : Int32) (f4 j1 (f2 j1) (0 : Int32) (0 : Int32)))))))) h0 n0 (Nat.le_trans Z0 K0.1) ) (by decide) (by decide) e9 (g := (mkF m 93 #[.val (.long j1), .second, .val (.long (f2 j1)), .second, .val (.int (f4 j1 (f2 j1) (6 : Int32) (f4 j1 (f2 j1) (5 : Int32) (f4 j1 (f2 j1) (4 : Int32) (f4 j1 (f2 j1) (3 : Int32) (f4 j1 (f2 j1) (2 : Int32) (f4 j1 (f2 j1) (1 : Int32) (f4 j1 (f2 j1) (0 : Int32) (0 : Int32)))))))))] [(.int (f4 j1 (f2 j1) (6 : Int32) (f4 j1 (f2 j1) (5 : Int32) (f4 j1 (f2 j1) (4 : Int32) (f4 j1 (f2 j1) (3 : Int32) (f4 j1 (f2 j1) (2 : Int32) (f4 j1 (f2 j1) (1 : Int32) (f4 j1 (f2 j1) (0 : Int32) (0 : Int32))))))))), (.int (7 : Int32)), (.long (f2 j1)), (.long j1)])) rfl (by rw [hml]; rfl) (argsL := [(.long j1), (.long (f2 j1)), (.int (7 : Int32)), (.int (f4 j1 (f2 j1) (6 : Int32) (f4 j1 (f2 j1) (5 : Int32) (f4 j1 (f2 j1) (4 : Int32) (f4 j1 (f2 j1) (3 : Int32) (f4 j1 (f2 j1) (2 : Int32) (f4 j1 (f2 j1) (1 : Int32) (f4 j1 (f2 j1) (0 : Int32) (0 : Int32)))))))))]) (rest := []) rfl (lenOf pd2 rfl) rfl (by show 2 * 0 + _ ≤ _; exact Nat.le_of_eq rfl) (hb hby at_93) (by decide) (by decide)
    have N10 := Fr.app N9 M10
    refine own_go st10 ?_
    show own_Fin p.tables e below _ (T10.setTop (mkF m 96 #[.val (.long j1), .second, .val (.long (f2 j1)), .second, .val (.int (f4 j1 (f2 j1) (6 : Int32) (f4 j1 (f2 j1) (5 : Int32) (f4 j1 (f2 j1) (4 : Int32) (f4 j1 (f2 j1) (3 : Int32) (f4 j1 (f2 j1) (2 : Int32) (f4 j1 (f2 j1) (1 : Int32) (f4 j1 (f2 j1) (0 : Int32) (0 : Int32)))))))))] [(.int (f4 j1 (f2 j1) (7 : Int32) (f4 j1 (f2 j1) (6 : Int32) (f4 j1 (f2 j1) (5 : Int32) (f4 j1 (f2 j1) (4 : Int32) (f4 j1 (f2 j1) (3 : Int32) (f4 j1 (f2 j1) (2 : Int32) (f4 j1 (f2 j1) (1 : Int32) (f4 j1 (f2 j1) (0 : Int32) (0 : Int32))))))))))]))
    refine own_go (fun _ k => XS.istore X10.here hx rfl (hb hby at_96) rfl (l' := #[.val (.long j1), .second, .val (.long (f2 j1)), .second, .val (.int (f4 j1 (f2 j1) (7 : Int32) (f4 j1 (f2 j1) (6 : Int32) (f4 j1 (f2 j1) (5 : Int32) (f4 j1 (f2 j1) (4 : Int32) (f4 j1 (f2 j1) (3 : Int32) (f4 j1 (f2 j1) (2 : Int32) (f4 j1 (f2 j1) (1 : Int32) (f4 j1 (f2 j1) (0 : Int32) (0 : Int32))))))))))]) rfl k) ?_
    show own_Fin p.tables e below _ (T10.setTop (mkF m 98 #[.val (.long j1), .second, .val (.long (f2 j1)), .second, .val (.int (f4 j1 (f2 j1) (7 : Int32) (f4 j1 (f2 j1) (6 : Int32) (f4 j1 (f2 j1) (5 : Int32) (f4 j1 (f2 j1) (4 : Int32) (f4 j1 (f2 j1) (3 : Int32) (f4 j1 (f2 j1) (2 : Int32) (f4 j1 (f2 j1) (1 : Int32) (f4 j1 (f2 j1) (0 : Int32) (0 : Int32))))))))))] []))
    refine own_go (fun _ k => XS.iload X10.here hx rfl (hb hby at_98) rfl k) ?_
    show own_Fin p.tables e below _ (T10.setTop (mkF m 100 #[.val (.long j1), .second, .val (.long (f2 j1)), .second, .val (.int (f4 j1 (f2 j1) (7 : Int32) (f4 j1 (f2 j1) (6 : Int32) (f4 j1 (f2 j1) (5 : Int32) (f4 j1 (f2 j1) (4 : Int32) (f4 j1 (f2 j1) (3 : Int32) (f4 j1 (f2 j1) (2 : Int32) (f4 j1 (f2 j1) (1 : Int32) (f4 j1 (f2 j1) (0 : Int32) (0 : Int32))))))))))] [(.int (f4 j1 (f2 j1) (7 : Int32) (f4 j1 (f2 j1) (6 : Int32) (f4 j1 (f2 j1) (5 : Int32) (f4 j1 (f2 j1) (4 : Int32) (f4 j1 (f2 j1) (3 : Int32) (f4 j1 (f2 j1) (2 : Int32) (f4 j1 (f2 j1) (1 : Int32) (f4 j1 (f2 j1) (0 : Int32) (0 : Int32))))))))))]))
    refine own_go (fun _ k => XT.iconstV X10.here hx rfl (2 : Int32) (hb hby at_100) (by decide) k) ?_
    show own_Fin p.tables e below _ (T10.setTop (mkF m 101 #[.val (.long j1), .second, .val (.long (f2 j1)), .second, .val (.int (f4 j1 (f2 j1) (7 : Int32) (f4 j1 (f2 j1) (6 : Int32) (f4 j1 (f2 j1) (5 : Int32) (f4 j1 (f2 j1) (4 : Int32) (f4 j1 (f2 j1) (3 : Int32) (f4 j1 (f2 j1) (2 : Int32) (f4 j1 (f2 j1) (1 : Int32) (f4 j1 (f2 j1) (0 : Int32) (0 : Int32))))))))))] [(.int (2 : Int32)), (.int (f4 j1 (f2 j1) (7 : Int32) (f4 j1 (f2 j1) (6 : Int32) (f4 j1 (f2 j1) (5 : Int32) (f4 j1 (f2 j1) (4 : Int32) (f4 j1 (f2 j1) (3 : Int32) (f4 j1 (f2 j1) (2 : Int32) (f4 j1 (f2 j1) (1 : Int32) (f4 j1 (f2 j1) (0 : Int32) (0 : Int32))))))))))]))
    by_cases hc11 : (f4 j1 (f2 j1) (7 : Int32) (f4 j1 (f2 j1) (6 : Int32) (f4 j1 (f2 j1) (5 : Int32) (f4 j1 (f2 j1) (4 : Int32) (f4 j1 (f2 j1) (3 : Int32) (f4 j1 (f2 j1) (2 : Int32) (f4 j1 (f2 j1) (1 : Int32) (f4 j1 (f2 j1) (0 : Int32) (0 : Int32))))))))) = (2 : Int32)
    · refine own_go (fun _ k => XS.icmpYes X10.here hx rfl (pc0 := 101) (pc' := 108) rfl (hb hby at_101) rfl (XT.ii_eq_t hc11) (by decide) (by decide) k) ?_
      show own_Fin p.tables e below _ (T10.setTop (mkF m 108 #[.val (.long j1), .second, .val (.long (f2 j1)), .second, .val (.int (f4 j1 (f2 j1) (7 : Int32) (f4 j1 (f2 j1) (6 : Int32) (f4 j1 (f2 j1) (5 : Int32) (f4 j1 (f2 j1) (4 : Int32) (f4 j1 (f2 j1) (3 : Int32) (f4 j1 (f2 j1) (2 : Int32) (f4 j1 (f2 j1) (1 : Int32) (f4 j1 (f2 j1) (0 : Int32) (0 : Int32))))))))))] []))
      refine own_go (fun _ k => XT.iconstV X10.here hx rfl (0 : Int32) (hb hby at_108) (by decide) k) ?_
      show own_Fin p.tables e below _ (T10.setTop (mkF m 109 #[.val (.long j1), .second, .val (.long (f2 j1)), .second, .val (.int (f4 j1 (f2 j1) (7 : Int32) (f4 j1 (f2 j1) (6 : Int32) (f4 j1 (f2 j1) (5 : Int32) (f4 j1 (f2 j1) (4 : Int32) (f4 j1 (f2 j1) (3 : Int32) (f4 j1 (f2 j1) (2 : Int32) (f4 j1 (f2 j1) (1 : Int32) (f4 j1 (f2 j1) (0 : Int32) (0 : Int32))))))))))] [(.int (0 : Int32))]))
      refine own_retN X10 hx hlk (t := .boolean) hret (by simp) (hb hby at_109) ?_ (by decide) (by decide)
      exact ⟨by rw [show f0 j1 = (0 : Int32) from by simp only [f0, if_pos hc2, if_pos hc11]] <;> rfl, N10⟩
    · refine own_go (fun _ k => XS.icmpNo X10.here hx rfl (hb hby at_101) rfl (XT.ii_eq_f hc11) k) ?_
      show own_Fin p.tables e below _ (T10.setTop (mkF m 104 #[.val (.long j1), .second, .val (.long (f2 j1)), .second, .val (.int (f4 j1 (f2 j1) (7 : Int32) (f4 j1 (f2 j1) (6 : Int32) (f4 j1 (f2 j1) (5 : Int32) (f4 j1 (f2 j1) (4 : Int32) (f4 j1 (f2 j1) (3 : Int32) (f4 j1 (f2 j1) (2 : Int32) (f4 j1 (f2 j1) (1 : Int32) (f4 j1 (f2 j1) (0 : Int32) (0 : Int32))))))))))] []))
      refine own_go (fun _ k => XT.iconstV X10.here hx rfl (1 : Int32) (hb hby at_104) (by decide) k) ?_
      show own_Fin p.tables e below _ (T10.setTop (mkF m 105 #[.val (.long j1), .second, .val (.long (f2 j1)), .second, .val (.int (f4 j1 (f2 j1) (7 : Int32) (f4 j1 (f2 j1) (6 : Int32) (f4 j1 (f2 j1) (5 : Int32) (f4 j1 (f2 j1) (4 : Int32) (f4 j1 (f2 j1) (3 : Int32) (f4 j1 (f2 j1) (2 : Int32) (f4 j1 (f2 j1) (1 : Int32) (f4 j1 (f2 j1) (0 : Int32) (0 : Int32))))))))))] [(.int (1 : Int32))]))
      refine own_go (fun _ k => XS.goto X10.here hx rfl (pc0 := 105) (pc' := 109) rfl (hb hby at_105) (by decide) (by decide) k) ?_
      show own_Fin p.tables e below _ (T10.setTop (mkF m 109 #[.val (.long j1), .second, .val (.long (f2 j1)), .second, .val (.int (f4 j1 (f2 j1) (7 : Int32) (f4 j1 (f2 j1) (6 : Int32) (f4 j1 (f2 j1) (5 : Int32) (f4 j1 (f2 j1) (4 : Int32) (f4 j1 (f2 j1) (3 : Int32) (f4 j1 (f2 j1) (2 : Int32) (f4 j1 (f2 j1) (1 : Int32) (f4 j1 (f2 j1) (0 : Int32) (0 : Int32))))))))))] [(.int (1 : Int32))]))
      refine own_retN X10 hx hlk (t := .boolean) hret (by simp) (hb hby at_109) ?_ (by decide) (by decide)
      exact ⟨by rw [show f0 j1 = (1 : Int32) from by simp only [f0, if_pos hc2, if_neg hc11]] <;> rfl, N10⟩
  · refine own_go (fun _ k => XS.ifNo X1.here hx rfl (hb hby at_12) rfl (XT.ll_eq_f hc2) k) ?_
    show own_Fin p.tables e below _ (T1.setTop (mkF m 15 #[.val (.long j1), .second, .val (.long (f2 j1)), .second, .unset] []))
    refine own_go (fun _ k => XT.iconstV X1.here hx rfl (0 : Int32) (hb hby at_15) (by decide) k) ?_
    show own_Fin p.tables e below _ (T1.setTop (mkF m 16 #[.val (.long j1), .second, .val (.long (f2 j1)), .second, .unset] [(.int (0 : Int32))]))
    refine own_retN X1 hx hlk (t := .boolean) hret (by simp) (hb hby at_16) ?_ (by decide) (by decide)
    exact ⟨by rw [show f0 j1 = (0 : Int32) from by simp only [f0, if_neg hc2]] <;> rfl, N1⟩
set_option maxRecDepth 65536 in
set_option maxHeartbeats 40000000 in
theorem comes_1 {Post : Tables → Env → Array Value → State → Outcome → State → Prop} (hpost : ∀ tb e args s v u, (limb_1_1.after args s (.returned v) u = true ∧ limb_1_2.after args s (.returned v) u = true ∧ True) → FrameEnd s (.returned v) u (Jvm.fieldLocs frame_1_writes args s ++ Jvm.arrayLocs frame_1_arrays args s ++ Jvm.staticLocs frame_1_statics s) 0 0 → Post tb e args s (.returned v) u) :
    ArmFor flags0 classFile x code maxLocals ret World_1 tables_1 room_1 Calls_1 rest_1 Pre_1 Post := by
  intro l hfl _ _ p e ha hc hk s m args below hf hA hF happ hP
  obtain ⟨hcalls, hrest, hpre⟩ := hP
  obtain ⟨-, -, -, hnamed, -, -, -, hat⟩ := (Spec.applies_iff hf).mp happ
  obtain ⟨hg, hn⟩ := and_e (Cond.before_iff.mp (show (Jvm.Cond.and given_1 narrow_1).before args s = true from hpre))
  obtain ⟨hcount, hr0⟩ := and_e hg
  obtain ⟨w0, rfl⟩ : ∃ w0 : Value, args = #[w0] := by
    have hs : args.size = 1 := by simpa [Cond.value, given_1] using hcount
    obtain ⟨L⟩ := args
    match L, hs with
    | [w0], _ => exact ⟨w0, rfl⟩
  have hw := fun d (hd : d ∈ tables_1) => atoms_spec (ws := Jvm.Cond.code x code maxLocals ret :: tables_1) hat d (List.mem_cons_of_mem _ hd)
  have hfit : Fit s := fun {y c} hc i hi => by
    obtain ⟨ha, rfl⟩ := Array.getElem?_eq_some_iff.mp hc
    have q := List.all_eq_true.mp ((Array.all_eq_true_iff_forall_mem.mp hF) _ (Array.getElem_mem ha)) i (List.mem_range.mpr hi)
    simpa [Array.getElem?_eq_getElem hi] using q
  obtain ⟨i0, ev0⟩ := isL_v hr0
  obtain rfl : w0 = (.long i0) := Option.some.inj ev0
  obtain ⟨n, o, h1, h2, h3, _, L, rfl, ⟨hv, N⟩, hq⟩ := rm0 l s _ hw tables_1 i0 s.heap s.heap.size (Nat.le_refl _)  p e ha hc hk s m _ below hf ((Spec.applies_iff_loose hf).mp happ).1 ⟨rfl, State.Warmed39.refl s, rfl⟩ trivial
  rw [own_law] at hv
  subst hv
  refine ⟨n, _, h1, h2, h3, hpost _ _ _ _ _ _ ⟨Cond.after_iff.mpr rfl, Cond.after_iff.mpr (eq_i res_at (Term.int_eval (1)) rfl), trivial⟩ ⟨hq.1, hq.2.1, (hq.2.2.sift fun y hy => Or.inr (N y hy)).mono (by decide) (by decide)⟩⟩
theorem main_1_1 : Claimed_1_1 := comes_1 fun _ _ _ _ _ _ h hF => ⟨h.1, hF⟩
theorem main_1_2 : Claimed_1_2 := comes_1 fun _ _ _ _ _ _ h hF => ⟨h.2.1, hF⟩
end Jvm.Pilot.@@N@@
namespace Jvm.Pilot.@@N@@
open Jvm Jvm.ClassFile Sem Op Lib Jvm.Free Jvm.Stand Jvm.Pilot.@@N@@.Jvm.D
/-! MADE BY PROGRAM (witnessworld.py) out of the Statement's table words and the real class files: 9 classes; the members and pool entries that the words name. The judged class is class 1, her method 3. -/
namespace start1
open Jvm.ClassFile
def u (s : String) : CpInfo := .utf8 (stringToUtf16 s)
/-- a pool by its gaps: so many unusable entries, then the entry; so many at the end -/
def gap : Nat → List CpInfo → List CpInfo
  | 0, r => r
  | n + 1, r => .unusable :: gap n r
def poolList (es : List (Nat × CpInfo)) (last : Nat) : List CpInfo := es.foldr (fun e r => gap e.1 (e.2 :: r)) (gap last [])
def pool (es : List (Nat × CpInfo)) (last : Nat) : Array CpInfo := ⟨poolList es last⟩
def fileOf (pool : Array CpInfo) (this : Nat) (attrs : Array Attribute := #[]) (ms : Array MethodInfo := #[]) (fl : Nat := 33) (sup : Nat := 0) (ifs : Array Nat := #[]) (fds : Array FieldInfo := #[]) : ClassFile where
  minorVersion := 0
  majorVersion := 65
  constantPool := pool
  accessFlags := fl
  thisClass := this
  superClass := sup
  interfaces := ifs
  fields := fds
  methods := ms
  attributes := attrs
def plain (name : String) (sup : Option ClassId) : Class where
  name := name
  kind := .ordinary
  loader := none
  accessFlags := 33
  super := sup
  interfaces := #[]
  cf := none
  fields := #[]
  methods := #[]
  instanceTypes := #[]
  staticTypes := #[]
  resolved := #[]
  callSites := []
  init := .initialized
  statics := none
  mirror := none

def pool0 : Array CpInfo := pool [(5, u "<init>"), (0, u "()V"), (1, .class_ 10), (1, u "java/lang/Object")] 113

def k0m0 : Method := { name := "<init>", desc := "()V", sig := { parameters := [], returnType := none }, accessFlags := 1, code := none }
/-- java/lang/Object -/
def k0 : Class := { plain "java/lang/Object" none with
  accessFlags := 33
  interfaces := #[]
  cf := some (fileOf pool0 8 #[] #[{ accessFlags := 1, nameIndex := 5, descriptorIndex := 6, attributes := #[] }] 33 0 #[] #[])
  fields := #[]
  methods := #[k0m0]
  instanceTypes := #[]
  staticTypes := #[]
  resolved := Array.replicate 124 none
  statics := none }

def pool1 : Array CpInfo := pool [(2, .class_ 4), (1, u "java/lang/Object"), (0, u "<init>"), (0, u "()V"), (0, .methodref 8 9), (0, .class_ 10), (0, .nameAndType 11 12), (0, u "com/example/envelope/envelope/JsonOutputStopsPinLaw"), (0, u "isStop"), (0, u "(I)Z"), (0, .methodref 14 15), (0, .class_ 16), (0, .nameAndType 17 18), (0, u "com/example/envelope/envelope/JsonOutput"), (0, u "stops"), (0, u "(J)J"), (0, .long 9187201950435737471), (1, .methodref 8 22), (0, .nameAndType 23 24), (0, u "step"), (0, u "(JJII)I"), (3, u "law"), (0, u "(J)Z")] 2

def k1m0 : Method := { name := "<init>", desc := "()V", sig := { parameters := [], returnType := none }, accessFlags := 1, code := none }
def k1c1 : Code := { maxStack := 2, maxLocals := 1, code := method_2_code, exceptionTable := #[], attributes := #[] }
def k1m1 : Method := { name := "isStop", desc := "(I)Z", sig := { parameters := [.int], returnType := some .boolean }, accessFlags := 10, code := some k1c1 }
def k1c2 : Code := { maxStack := 4, maxLocals := 9, code := method_3_code, exceptionTable := #[], attributes := #[] }
def k1m2 : Method := { name := "step", desc := "(JJII)I", sig := { parameters := [.long, .long, .int, .int], returnType := some .int }, accessFlags := 10, code := some k1c2 }
def k1c3 : Code := { maxStack := 6, maxLocals := 5, code := code, exceptionTable := #[], attributes := #[] }
def k1m3 : Method := { name := "law", desc := "(J)Z", sig := { parameters := [.long], returnType := some .boolean }, accessFlags := 9, code := some k1c3 }
/-- com/example/envelope/envelope/JsonOutputStopsPinLaw -/
def k1 : Class := { plain "com/example/envelope/envelope/JsonOutputStopsPinLaw" (some 0) with
  accessFlags := 49
  interfaces := #[]
  cf := some (fileOf pool1 8 #[] #[{ accessFlags := 1, nameIndex := 5, descriptorIndex := 6, attributes := #[] }, { accessFlags := 10, nameIndex := 11, descriptorIndex := 12, attributes := #[] }, { accessFlags := 10, nameIndex := 23, descriptorIndex := 24, attributes := #[] }, { accessFlags := 9, nameIndex := 28, descriptorIndex := 29, attributes := #[] }] 49 2 #[] #[])
  fields := #[]
  methods := #[k1m0, k1m1, k1m2, k1m3]
  instanceTypes := #[]
  staticTypes := #[]
  resolved := Array.replicate 32 none
  statics := none }

def pool2 : Array CpInfo := pool [(2, .class_ 4), (1, u "java/lang/Object"), (3, .class_ 10), (1, u "com/example/envelope/envelope/JsonOutput"), (0, u "bytes"), (0, u "[B"), (12, u "stops"), (0, u "(J)J"), (14, u "EIGHT_BYTES"), (0, u "Ljava/lang/invoke/VarHandle;"), (5, .long 2314885530818453536), (1, .long 18446744073709551615), (1, .long 9187201950435737471), (1, .long 72340172838076673), (1, .long 2459565876494606882), (1, .methodref 8 59), (0, .nameAndType 60 26), (0, u "zeros"), (0, .long 6655295901103053916), (1, .long 14033993530586874562), (1, .long 9259542123273814144), (3, u "IS_SHORT_LETTER"), (0, u "[Z"), (17, u "length"), (11, u "I"), (77, u "HEX"), (0, u "Ljava/util/HexFormat;"), (14, .class_ 195), (0, u "com/example/envelope/envelope/JsonOutput$TooLongError"), (32, u "STRETCH"), (2, u "HEX_DIGITS"), (0, u "Ljava/lang/String;"), (0, u "SHORT_ESCAPED"), (0, u "SHORT_LETTERS"), (0, u "ONES"), (0, u "J"), (0, u "HIGH_BITS")] 25

def k2c0 : Code := { maxStack := 6, maxLocals := 8, code := prog_16_method_5_code, exceptionTable := #[], attributes := #[] }
def k2m0 : Method := { name := "stops", desc := "(J)J", sig := { parameters := [.long], returnType := some .long }, accessFlags := 8, code := some k2c0 }
def k2c1 : Code := { maxStack := 6, maxLocals := 2, code := prog_16_method_6_code, exceptionTable := #[], attributes := #[] }
def k2m1 : Method := { name := "zeros", desc := "(J)J", sig := { parameters := [.long], returnType := some .long }, accessFlags := 10, code := some k2c1 }
/-- com/example/envelope/envelope/JsonOutput -/
def k2 : Class := { plain "com/example/envelope/envelope/JsonOutput" (some 0) with
  accessFlags := 48
  interfaces := #[]
  cf := some (fileOf pool2 8 #[.nestMembers #[194]] #[{ accessFlags := 8, nameIndex := 25, descriptorIndex := 26, attributes := #[] }, { accessFlags := 10, nameIndex := 60, descriptorIndex := 26, attributes := #[] }] 48 2 #[] #[{ accessFlags := 26, nameIndex := 228, descriptorIndex := 100, attributes := #[] }, { accessFlags := 26, nameIndex := 178, descriptorIndex := 179, attributes := #[] }, { accessFlags := 26, nameIndex := 231, descriptorIndex := 232, attributes := #[] }, { accessFlags := 26, nameIndex := 233, descriptorIndex := 232, attributes := #[] }, { accessFlags := 26, nameIndex := 234, descriptorIndex := 232, attributes := #[] }, { accessFlags := 26, nameIndex := 69, descriptorIndex := 70, attributes := #[] }, { accessFlags := 26, nameIndex := 41, descriptorIndex := 42, attributes := #[] }, { accessFlags := 24, nameIndex := 235, descriptorIndex := 236, attributes := #[] }, { accessFlags := 24, nameIndex := 237, descriptorIndex := 236, attributes := #[] }, { accessFlags := 2, nameIndex := 11, descriptorIndex := 12, attributes := #[] }, { accessFlags := 2, nameIndex := 88, descriptorIndex := 100, attributes := #[] }])
  fields := #[{ name := "STRETCH", type := .int, accessFlags := 26, slot := 0, constantValue := 0 }, { name := "HEX", type := (.object "java/util/HexFormat"), accessFlags := 26, slot := 1, constantValue := 0 }, { name := "HEX_DIGITS", type := (.object "java/lang/String"), accessFlags := 26, slot := 2, constantValue := 0 }, { name := "SHORT_ESCAPED", type := (.object "java/lang/String"), accessFlags := 26, slot := 3, constantValue := 0 }, { name := "SHORT_LETTERS", type := (.object "java/lang/String"), accessFlags := 26, slot := 4, constantValue := 0 }, { name := "IS_SHORT_LETTER", type := (.array .boolean), accessFlags := 26, slot := 5, constantValue := 0 }, { name := "EIGHT_BYTES", type := (.object "java/lang/invoke/VarHandle"), accessFlags := 26, slot := 6, constantValue := 0 }, { name := "ONES", type := .long, accessFlags := 24, slot := 7, constantValue := 0 }, { name := "HIGH_BITS", type := .long, accessFlags := 24, slot := 8, constantValue := 0 }, { name := "bytes", type := (.array .byte), accessFlags := 2, slot := 0, constantValue := 0 }, { name := "length", type := .int, accessFlags := 2, slot := 1, constantValue := 0 }]
  methods := #[k2m0, k2m1]
  instanceTypes := #[(.array .byte), .int]
  staticTypes := #[.int, (.object "java/util/HexFormat"), (.object "java/lang/String"), (.object "java/lang/String"), (.object "java/lang/String"), (.array .boolean), (.object "java/lang/invoke/VarHandle"), .long, .long]
  resolved := Array.replicate 263 none
  statics := none }

def pool3 : Array CpInfo := pool [(1, u "java/lang/Cloneable"), (0, .class_ 1), (0, u "java/lang/Object"), (0, .class_ 3)] 3

/-- java/lang/Cloneable -/
def k3 : Class := { plain "java/lang/Cloneable" (some 0) with
  accessFlags := 1537
  interfaces := #[]
  cf := some (fileOf pool3 2 #[] #[] 1537 4 #[] #[])
  fields := #[]
  methods := #[]
  instanceTypes := #[]
  staticTypes := #[]
  resolved := Array.replicate 8 none
  statics := none }

def pool4 : Array CpInfo := pool [(1, u "java/io/Serializable"), (0, .class_ 1), (0, u "java/lang/Object"), (0, .class_ 3)] 3

/-- java/io/Serializable -/
def k4 : Class := { plain "java/io/Serializable" (some 0) with
  accessFlags := 1537
  interfaces := #[]
  cf := some (fileOf pool4 2 #[] #[] 1537 4 #[] #[])
  fields := #[]
  methods := #[]
  instanceTypes := #[]
  staticTypes := #[]
  resolved := Array.replicate 8 none
  statics := none }

/-- the primitive byte -/
def k5 : Class := { plain "byte" none with kind := .primitive 'B', accessFlags := 0x411 }
/-- [B -/
def k6 : Class := { plain "[B" (some 0) with kind := .array 5 .byte, interfaces := #[3, 4], accessFlags := 1041 }

/-- the primitive int -/
def k7 : Class := { plain "int" none with kind := .primitive 'I', accessFlags := 0x411 }
/-- [I -/
def k8 : Class := { plain "[I" (some 0) with kind := .array 7 .int, interfaces := #[3, 4], accessFlags := 1041 }

def heap : Heap := #[]
def classes : Array Class := #[k0, k1, k2, k3, k4, k5, k6, k7, k8]
def interned : List (Array UInt16 × Addr) := []
def slotsUsed : Nat := 0
def theMethod : MethodId := ⟨1, 3⟩
def args0 : Array Value := #[.long 70]
def aboutOver (below : List Frame) : State where
  vm := { classes := classes, interned := interned.toArray }
  heap := heap
  slotsUsed := slotsUsed
  threads := #[{ frames := .invoking theMethod args0 :: below }]
def below0 : List Frame := [.native { method := ⟨0, 0⟩, args := #[] }]
def about1 : State := aboutOver below0
def p0 : Program := .bare "" "" ""
def e0 : Env := launch0.env 0 0 0
theorem w_frames : about1.frames = Frame.invoking theMethod args0 :: below0 := rfl
set_option maxRecDepth 65536 in
theorem w_args : argsFit about1.vm theMethod args0 = true := by decide +kernel
set_option maxRecDepth 65536 in
theorem w_heap : heapFits about1 = true := by decide +kernel
set_option maxRecDepth 65536 in
theorem w_runnable : about1.curStatus? = some .runnable := by decide +kernel
set_option maxRecDepth 65536 in
theorem w_alone : about1.alone = true := by decide +kernel
set_option maxRecDepth 65536 in
theorem w_named : about1.methodNamed? x = some theMethod := by decide +kernel
set_option maxRecDepth 65536 in
theorem w_hears : about1.hears theMethod below0 = true := by decide +kernel
set_option maxRecDepth 65536 in
theorem w_ripe : about1.ripe theMethod args0 below0 = true := by decide +kernel
theorem w_running : about1.status = .running := rfl
set_option maxRecDepth 65536 in
theorem w_room : about1.hasRoom e0.platform room_1 = true :=
  launch0.hasRoom_least _ room_1 (by decide +kernel) (by decide +kernel) (by decide +kernel) (by decide +kernel) (by decide +kernel) (by decide +kernel)
theorem allAtoms_all (ts : List Jvm.Cond) (a : Array Jvm.Value) (st : Jvm.State) : (allAtoms ts).before a st = ts.all (fun c => c.before a st) := by
  induction ts with
  | nil => rfl
  | cons c t ih =>
    show (Jvm.Cond.and c (allAtoms t)).before a st = _
    rw [Jvm.Cond.before_and, ih, List.all_cons]
def words1 : List Jvm.Cond := Jvm.Cond.code x code maxLocals ret :: tables_1
/-- a 'code' word, met by the world's own term for the bytes: nothing is compared byte by byte -/
theorem code_word {y : MethodName} {bytes : ByteArray} {mx : Nat} {rt : Option FieldType} {a : Array Value} {s : State} {m : MethodId} {meth : Method} {c : Code} (h1 : s.methodNamed? y = some m) (h2 : s.vm.method? m = some meth) (h3 : meth.code = some c) (h4 : c.code = bytes)
    (h5 : (c.maxLocals == mx && c.exceptionTable.isEmpty && decide (c.maxStack ≤ mostOperands) && decide (meth.sig.returnType = rt) && !meth.locks && decide (parseMethodDescriptor y.desc = some meth.sig)) = true) : (Jvm.Cond.code y bytes mx rt).before a s = true := by
  simp only [Bool.and_eq_true, beq_iff_eq, Bool.not_eq_true', decide_eq_true_eq] at h5
  obtain ⟨⟨⟨⟨⟨g1, g2⟩, g3⟩, g4⟩, g5⟩, g6⟩ := h5
  simp [Cond.before, Cond.holds, Cond.value, h1, h2, h3, h4, g1, g2, g3, g4, g5, g6]
def isCode : Jvm.Cond → Bool
  | .code _ _ _ _ => true
  | _ => false
theorem all_split {L : List Jvm.Cond} {P : Jvm.Cond → Bool} (h1 : L.all (fun c => isCode c || P c) = true) (h2 : ∀ c ∈ L.filter isCode, P c = true) : L.all P = true := by
  refine List.all_eq_true.mpr fun c hc => ?_
  have h := List.all_eq_true.mp h1 c hc
  rcases Bool.eq_false_or_eq_true (isCode c) with hi | hi
  · exact h2 c (List.mem_filter.mpr ⟨hc, hi⟩)
  · simpa [hi] using h
set_option maxRecDepth 65536 in
theorem w_c0 : (Jvm.Cond.code x code maxLocals ret).before args0 about1 = true := code_word (m := ⟨1, 3⟩) (meth := k1m3) (c := k1c3) (by decide +kernel) rfl rfl rfl (by decide +kernel)
set_option maxRecDepth 65536 in
theorem w_c1 : (Jvm.Cond.code ({ cls := "com/example/envelope/envelope/JsonOutput", name := "stops", desc := "(J)J" } : Jvm.MethodName) prog_16_method_5_code (8 : Nat) (Option.some Jvm.ClassFile.FieldType.long)).before args0 about1 = true := code_word (m := ⟨2, 0⟩) (meth := k2m0) (c := k2c0) (by decide +kernel) rfl rfl rfl (by decide +kernel)
set_option maxRecDepth 65536 in
theorem w_c2 : (Jvm.Cond.code ({ cls := "com/example/envelope/envelope/JsonOutput", name := "zeros", desc := "(J)J" } : Jvm.MethodName) prog_16_method_6_code (2 : Nat) (Option.some Jvm.ClassFile.FieldType.long)).before args0 about1 = true := code_word (m := ⟨2, 1⟩) (meth := k2m1) (c := k2c1) (by decide +kernel) rfl rfl rfl (by decide +kernel)
set_option maxRecDepth 65536 in
theorem w_c3 : (Jvm.Cond.code ({ cls := "com/example/envelope/envelope/JsonOutputStopsPinLaw", name := "step", desc := "(JJII)I" } : Jvm.MethodName) method_3_code (9 : Nat) (Option.some Jvm.ClassFile.FieldType.int)).before args0 about1 = true := code_word (m := ⟨1, 2⟩) (meth := k1m2) (c := k1c2) (by decide +kernel) rfl rfl rfl (by decide +kernel)
set_option maxRecDepth 65536 in
theorem w_c4 : (Jvm.Cond.code ({ cls := "com/example/envelope/envelope/JsonOutputStopsPinLaw", name := "isStop", desc := "(I)Z" } : Jvm.MethodName) method_2_code (1 : Nat) (Option.some Jvm.ClassFile.FieldType.boolean)).before args0 about1 = true := code_word (m := ⟨1, 1⟩) (meth := k1m1) (c := k1c1) (by decide +kernel) rfl rfl rfl (by decide +kernel)
def codes1 : List Jvm.Cond := [Jvm.Cond.code x code maxLocals ret, Jvm.Cond.code ({ cls := "com/example/envelope/envelope/JsonOutput", name := "stops", desc := "(J)J" } : Jvm.MethodName) prog_16_method_5_code (8 : Nat) (Option.some Jvm.ClassFile.FieldType.long), Jvm.Cond.code ({ cls := "com/example/envelope/envelope/JsonOutput", name := "zeros", desc := "(J)J" } : Jvm.MethodName) prog_16_method_6_code (2 : Nat) (Option.some Jvm.ClassFile.FieldType.long), Jvm.Cond.code ({ cls := "com/example/envelope/envelope/JsonOutputStopsPinLaw", name := "step", desc := "(JJII)I" } : Jvm.MethodName) method_3_code (9 : Nat) (Option.some Jvm.ClassFile.FieldType.int), Jvm.Cond.code ({ cls := "com/example/envelope/envelope/JsonOutputStopsPinLaw", name := "isStop", desc := "(I)Z" } : Jvm.MethodName) method_2_code (1 : Nat) (Option.some Jvm.ClassFile.FieldType.boolean)]
set_option maxRecDepth 65536 in
theorem codes_eq : words1.filter isCode = codes1 := rfl
theorem w_codes : ∀ c ∈ words1.filter isCode, c.before args0 about1 = true := by
  rw [codes_eq]
  intro c hc
  simp only [codes1, List.mem_cons, List.not_mem_nil, or_false] at hc
  rcases hc with rfl | rfl | rfl | rfl | rfl
  · exact w_c0
  · exact w_c1
  · exact w_c2
  · exact w_c3
  · exact w_c4
set_option maxRecDepth 65536 in
theorem w_t1 : words1.all (fun c => isCode c || c.before args0 about1) = true := by decide +kernel
theorem w_tables : (allAtoms (Jvm.Cond.code x code maxLocals ret :: tables_1)).before args0 about1 = true := by
  rw [allAtoms_all]
  show words1.all (fun c => c.before args0 about1) = true
  refine all_split ?_ w_codes
  rw [w_t1]
set_option maxRecDepth 65536 in
theorem w_case : (Jvm.Cond.and given_1 narrow_1).before args0 about1 = true := by decide +kernel
theorem w_applies : (headSpec (Jvm.Cond.code x code maxLocals ret :: tables_1) room_1).applies x e0.platform about1 = true :=
  (Spec.applies_iff w_frames).mpr ⟨w_running, w_runnable, w_alone, w_named, w_hears, w_ripe, w_room, w_tables⟩
theorem atStart : AtStart classFile x code maxLocals ret World_1 tables_1 room_1 Calls_1 rest_1 Pre_1 launch0 p0 e0 about1 theMethod args0 below0 :=
  ⟨lists_1, trivial, launch0.admits_env _ _ _, launch0.least_env, fairChoices_fair.cas, fairChoices_fair.clock, w_frames, w_args, w_heap, w_applies, trivial, trivial, w_case⟩
end start1
theorem witness_1 : WitnessClaimed_1 := ⟨start1.p0, start1.e0, start1.about1, start1.theMethod, start1.args0, start1.below0, start1.atStart⟩
end Jvm.Pilot.@@N@@
