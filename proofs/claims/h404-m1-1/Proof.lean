import JvmDerived
import JvmDerived.Pilot.@@N@@Statement
import JvmDerived.Pilot.@@N@@Code
set_option linter.unusedVariables false
set_option linter.unusedSimpArgs false
namespace Jvm.Pilot.@@N@@
open Jvm Jvm.ClassFile Sem Op Lib Jvm.Free Jvm.Stand Jvm.LawKit Jvm.RoadKit Bundle Jvm.Pilot.@@N@@.Jvm.D
section OwnKit
variable {p : Program} {l : Launch} {e : Env} {R : Room} {s : State} {m : MethodId} {args : Array Value} {below : List Frame} {meth : Method} {c : Code} {T : State} {locs : List Loc} {cells slots : Nat} {Z : State} {a0 : Array Value} {h : Heap}
/-- the run from t ends, and Q holds of its end -/
def own_Fin (tb : Tables) (e : Env) (below : List Frame) (Q : Outcome → State → Prop) (t : State) : Prop := ∃ s₂ o, Steps tb e below t s₂ ∧ s₂.status = .running ∧ Ended s₂ below o ∧ Q o s₂
theorem own_go {tb : Tables} {Q : Outcome → State → Prop} {t t' : State} (k : ∀ z, Steps tb e below t' z → Steps tb e below t z) (f : own_Fin tb e below Q t') : own_Fin tb e below Q t := by
  obtain ⟨s₂, o, h1, h2⟩ := f
  exact ⟨s₂, o, k _ h1, h2⟩
/-- the run from t comes to a state of which G holds -/
def own_Go (tb : Tables) (e : Env) (below : List Frame) (G : State → Prop) (t : State) : Prop := ∃ t', G t' ∧ ∀ z, Steps tb e below t' z → Steps tb e below t z
theorem own_on {tb : Tables} {G : State → Prop} {t t' : State} (k : ∀ z, Steps tb e below t' z → Steps tb e below t z) (f : own_Go tb e below G t') : own_Go tb e below G t := by
  obtain ⟨t₂, h1, h2⟩ := f
  exact ⟨t₂, h1, fun z q => k z (h2 z q)⟩
theorem own_here {tb : Tables} {G : State → Prop} {t : State} (k : G t) : own_Go tb e below G t := ⟨t, k, fun _ q => q⟩
def own_End (s : State) (Q : Option Value → Heap → List Loc → Prop) (C S : Nat) (o : Outcome) (U : State) : Prop := ∃ v L, o = .returned v ∧ Q v U.heap L ∧ FrameEnd s o U L C S
variable {Q : Option Value → Heap → List Loc → Prop} {C S : Nat}
theorem own_retI (X : Stand p l e R s m args below meth c T locs cells slots) (hx : p.tables.exec = Jvm.exec) (hlk : meth.locks = false) {pc : Nat} {Ls : Array Slot} {z : Int32} {rest : List Value} (hret : meth.sig.returnType = some .int) (hd : decode c.code pc = .ok (.ireturn, 1)) (hq : Q (some (.int z)) T.heap locs) (hC : cells ≤ C) (hS : slots ≤ S) :
    own_Fin p.tables e below (own_End s Q C S) (T.setTop (mkF m pc Ls (.int z :: rest))) := by
  obtain ⟨fs, hr, hrun, hended, hW, hsame⟩ := X.leave (v := some (.int z)) (fun h => by rw [hret] at h; cases h) hlk
  exact ⟨_, _, retOut X hx hret rfl (Or.inl ⟨rfl, Or.inl rfl, _, rfl⟩) hd hr, hrun, hended, _, _, rfl, hq, ⟨_, rfl⟩, hW, hsame.mono hC hS⟩
theorem own_retN (X : Stand p l e R s m args below meth c T locs cells slots) (hx : p.tables.exec = Jvm.exec) (hlk : meth.locks = false) {pc : Nat} {Ls : Array Slot} {z : Int32} {rest : List Value} {t : FieldType} (hret : meth.sig.returnType = some t) (ht : t = .boolean ∨ t = .byte ∨ t = .char ∨ t = .short) (hd : decode c.code pc = .ok (.ireturn, 1)) (hq : Q (some (.int (nar t z))) T.heap locs) (hC : cells ≤ C) (hS : slots ≤ S) :
    own_Fin p.tables e below (own_End s Q C S) (T.setTop (mkF m pc Ls (.int z :: rest))) := by
  obtain ⟨fs, hr, hrun, hended, hW, hsame⟩ := X.leave (v := some (.int (nar t z))) (fun h => by rw [hret] at h; cases h) hlk
  exact ⟨_, _, retN X hx hret ht hd hr, hrun, hended, _, _, rfl, hq, ⟨_, rfl⟩, hW, hsame.mono hC hS⟩
theorem own_retJ (X : Stand p l e R s m args below meth c T locs cells slots) (hx : p.tables.exec = Jvm.exec) (hlk : meth.locks = false) {pc : Nat} {Ls : Array Slot} {z : Int64} {rest : List Value} (hret : meth.sig.returnType = some .long) (hd : decode c.code pc = .ok (.lreturn, 1)) (hq : Q (some (.long z)) T.heap locs) (hC : cells ≤ C) (hS : slots ≤ S) :
    own_Fin p.tables e below (own_End s Q C S) (T.setTop (mkF m pc Ls (.long z :: rest))) := by
  obtain ⟨fs, hr, hrun, hended, hW, hsame⟩ := X.leave (v := some (.long z)) (fun h => by rw [hret] at h; cases h) hlk
  exact ⟨_, _, retOut X hx hret rfl (Or.inr (Or.inl ⟨rfl, rfl, _, rfl⟩)) hd hr, hrun, hended, _, _, rfl, hq, ⟨_, rfl⟩, hW, hsame.mono hC hS⟩
theorem own_retA (X : Stand p l e R s m args below meth c T locs cells slots) (hx : p.tables.exec = Jvm.exec) (hlk : meth.locks = false) {pc : Nat} {Ls : Array Slot} {w : Value} {rest : List Value} {t : FieldType} (hret : meth.sig.returnType = some t) (ht : t.isReference = true) (hw : w.isRef = true) (hd : decode c.code pc = .ok (.areturn, 1)) (hq : Q (some w) T.heap locs) (hC : cells ≤ C) (hS : slots ≤ S) :
    own_Fin p.tables e below (own_End s Q C S) (T.setTop (mkF m pc Ls (w :: rest))) := by
  obtain ⟨fs, hr, hrun, hended, hW, hsame⟩ := X.leave (v := some w) (fun h => by rw [hret] at h; cases h) hlk
  have hn : narrow t w = w := by cases t <;> first | (cases ht; done) | (cases w <;> first | (cases hw; done) | rfl)
  exact ⟨_, _, retOut X hx hret hn (Or.inr (Or.inr (Or.inr (Or.inr ⟨rfl, ht, hw⟩)))) hd hr, hrun, hended, _, _, rfl, hq, ⟨_, rfl⟩, hW, hsame.mono hC hS⟩
theorem own_retV (X : Stand p l e R s m args below meth c T locs cells slots) (hx : p.tables.exec = Jvm.exec) (hlk : meth.locks = false) {pc : Nat} {Ls : Array Slot} (hret : meth.sig.returnType = none) (hd : decode c.code pc = .ok (.return_, 1)) (hq : Q none T.heap locs) (hC : cells ≤ C) (hS : slots ≤ S) :
    own_Fin p.tables e below (own_End s Q C S) (T.setTop (mkF m pc Ls [])) := by
  obtain ⟨fs, hr, hrun, hended, hW, hsame⟩ := X.leave (v := none) (fun _ => rfl) hlk
  exact ⟨_, _, X.returnOut hx hret hd hr, hrun, hended, _, _, rfl, hq, ⟨_, rfl⟩, hW, hsame.mono hC hS⟩
/-- what a body's contract says: called with as' at the heap h0 it returns, and Q holds of what it returns, of the heap and of the places written -/
def own_Met (l : Launch) (y : MethodName) (bytes : ByteArray) (maxL : Nat) (ret : Option FieldType) (rm : Room) (ws : List Jvm.Cond) (as' : Array Value) (Z : State) (h0 : Heap) (C S : Nat) (Q : Option Value → Heap → List Loc → Prop) : Prop :=
  MetFree l y (head1 (Jvm.Cond.code y bytes maxL ret :: ws) rm) (fun a U => a = as' ∧ Z.Warmed39 U.vm ∧ U.heap = h0) (fun _ _ _ _ _ => True) (fun _ U o U' => ∃ v L, o = .returned v ∧ Q v U'.heap L ∧ FrameEnd U o U' L C S)
theorem own_met {y : MethodName} {bytes : ByteArray} {maxL : Nat} {ret : Option FieldType} {rm : Room} {ws : List Jvm.Cond} {as' : Array Value} {h0 : Heap} (hy : plainFor y = true)
    (body : ∀ (p : Program) (e : Env) (s : State) (m : MethodId) (below : List Frame) (meth : Method) (c : Code) (s₁ : State), p.tables.exec = Jvm.exec → c.code = bytes → c.maxLocals = maxL → s.vm.findClass y.cls = some m.cls → meth.name = y.name → meth.sig.returnType = ret → meth.locks = false → Z.Warmed39 s.vm → s₁.heap = h0 → Stand p l e rm s m as' below meth c s₁ [] 0 0 → own_Fin p.tables e below (own_End s Q C S) (s₁.setTop (entryFrame m as' maxL))) :
    own_Met l y bytes maxL ret rm ws as' Z h0 C S Q := by
  refine MetFree.of_bodySF hy hisR ?_
  intro p e s m args below meth c s₁ Bd hml0 hP hK
  obtain ⟨rfl, hZ, hh⟩ := hP
  have X0 : Stand p l e rm s m args below meth c s₁ [] 0 0 := Stand.of_body Bd
  exact body p e s m below meth c s₁ Bd.exec Bd.bytes hml0 (findClass_of_methodNamed Bd.named) (name_of_methodNamed Bd.named Bd.method).1 Bd.returns Bd.notSynchronized hZ (by rw [← hh, Bd.state]; rfl) X0
section Calls
variable {own : String} {index : Nat} {y : MethodName} {bytes : ByteArray} {maxL : Nat} {ret : Option FieldType} {rm : Room} {as' : Array Value}
theorem own_callS (X : Stand p l e R s m args below meth c T locs cells slots) (hx : p.tables.exec = Jvm.exec) (hZ : Z.Warmed39 s.vm) (hown : s.vm.findClass own = some m.cls) (w1 : (Jvm.Cond.methodLink own index y).before a0 Z = true) (w2 : (Jvm.Cond.static y).before a0 Z = true) (w3 : (Jvm.Cond.initialized y.cls).before a0 Z = true) (w4 : (Jvm.Cond.code y bytes maxL ret).before a0 Z = true)
    (hy : y.cls ≠ "java/lang/invoke/MethodHandle" ∧ y.cls ≠ "java/lang/invoke/VarHandle") {W : Nat} (hM : own_Met l y bytes maxL ret rm [] as' Z h rm.cells rm.slots Q) (hf : rm.frames + 1 ≤ R.frames) (hl : W + (maxL + 11) + rm.locals ≤ R.locals) (eT : T.heap = h)
    {g : JFrame} (hg : g.method = m) (hsize : g.locals.size = c.maxLocals) {argsL rest : List Value} (has : argsL.toArray = as') (hlen : ∀ sig, parseMethodDescriptor y.desc = some sig → argsL.length = sig.parameters.length)
    (hstack : g.stack = argsL.reverse ++ rest) (hW : 2 * g.monitorRoom + (rest.map fun v => v.category).sum ≤ W) (hdg : decode c.code g.pc = .ok (.invokestatic index, 3)) (hc : cells + rm.cells ≤ R.cells) (hs : slots + rm.slots ≤ R.slots) :
    ∃ (v : Option Value) (T' : State) (L' : List Loc), Stand p l e R s m args below meth c T' (locs ++ L') (cells + rm.cells) (slots + rm.slots) ∧ Q v T'.heap L' ∧
      ∀ t, Steps p.tables e below (T'.setTop { g with pc := g.pc + 3, stack := v.toList ++ rest }) t → Steps p.tables e below (T.setTop g) t := by
  obtain ⟨v, vm1, ⟨T', L, k, n⟩, -, X', ⟨L', hQ, e1, e2, e3⟩, st⟩ := Jvm.LawKit.callS X hx hown (mvT hZ w1) (mvT hZ w2) (mvT hZ w3) (mvT hZ w4) hy (backOf (W := W) hM hZ w4 w3 hf hl) hg hsize hlen hstack hW hdg (fun _ _ => ⟨has, eT, hc, hs⟩)
  dsimp only [Pt.U, Pt.locs, Pt.cells, Pt.slots] at X' e1 e2 e3 st hQ
  subst e1 e2 e3
  exact ⟨v, T', L', X', hQ, st⟩
theorem own_callC (X : Stand p l e R s m args below meth c T locs cells slots) (hx : p.tables.exec = Jvm.exec) (hZ : Z.Warmed39 s.vm) (hown : s.vm.findClass own = some m.cls) (hnm : y.name = "<init>") (w1 : (Jvm.Cond.methodLink own index y).before a0 Z = true) (w2 : (Jvm.Cond.instanceMethod y).before a0 Z = true) (w3 : (Jvm.Cond.initialized y.cls).before a0 Z = true) (w4 : (Jvm.Cond.code y bytes maxL none).before a0 Z = true)
    (hy : y.cls ≠ "java/lang/invoke/MethodHandle" ∧ y.cls ≠ "java/lang/invoke/VarHandle") {W : Nat} (hM : own_Met l y bytes maxL none rm [] as' Z h rm.cells rm.slots Q) (hf : rm.frames + 1 ≤ R.frames) (hl : W + (maxL + 11) + rm.locals ≤ R.locals) (eT : T.heap = h)
    {g : JFrame} (hg : g.method = m) (hsize : g.locals.size = c.maxLocals) {a : Addr} {argsL rest : List Value} (has : (.ref a :: argsL).toArray = as') (hlen : ∀ sig, parseMethodDescriptor y.desc = some sig → argsL.length = sig.parameters.length)
    (hstack : g.stack = argsL.reverse ++ .ref a :: rest) (hW : 2 * g.monitorRoom + (rest.map fun v => v.category).sum ≤ W) (hdg : decode c.code g.pc = .ok (.invokespecial index, 3)) (hc : cells + rm.cells ≤ R.cells) (hs : slots + rm.slots ≤ R.slots) :
    ∃ (v : Option Value) (T' : State) (L' : List Loc), Stand p l e R s m args below meth c T' (locs ++ L') (cells + rm.cells) (slots + rm.slots) ∧ Q v T'.heap L' ∧
      ∀ t, Steps p.tables e below (T'.setTop { g with pc := g.pc + 3, stack := v.toList ++ rest }) t → Steps p.tables e below (T.setTop g) t := by
  obtain ⟨v, vm1, ⟨T', L, k, n⟩, -, X', ⟨L', hQ, e1, e2, e3⟩, st⟩ := X.specialBack hx hnm hown (mvT hZ w1) (mvT hZ w2) (mvT hZ w4) hy (backOf (W := W) hM hZ w4 w3 hf hl) hg hsize (Steps.refl _) hlen hstack hW hdg (fun _ _ => ⟨has, eT, hc, hs⟩)
  dsimp only [Pt.U, Pt.locs, Pt.cells, Pt.slots] at X' e1 e2 e3 st hQ
  subst e1 e2 e3
  exact ⟨v, T', L', X', hQ, fun _ k => st.trans k⟩
theorem own_callV (X : Stand p l e R s m args below meth c T locs cells slots) (hx : p.tables.exec = Jvm.exec) (hZ : Z.Warmed39 s.vm) (hown : s.vm.findClass own = some m.cls) {D : String} (w1 : (Jvm.Cond.methodLink own index y).before a0 Z = true) (w2 : (Jvm.Cond.declares y).before a0 Z = true) (w3 : (Jvm.Cond.selects D y y).before a0 Z = true) (w4 : (Jvm.Cond.instanceMethod y).before a0 Z = true) (w5 : (Jvm.Cond.initialized y.cls).before a0 Z = true) (w6 : (Jvm.Cond.code y bytes maxL ret).before a0 Z = true)
    (hy : y.cls ≠ "java/lang/invoke/MethodHandle" ∧ y.cls ≠ "java/lang/invoke/VarHandle") {W : Nat} (hM : own_Met l y bytes maxL ret rm [] as' Z h rm.cells rm.slots Q) (hf : rm.frames + 1 ≤ R.frames) (hl : W + (maxL + 11) + rm.locals ≤ R.locals) (eT : T.heap = h) {a : Addr} (E : Exa Z h a D)
    {g : JFrame} (hg : g.method = m) (hsize : g.locals.size = c.maxLocals) {argsL rest : List Value} (has : (.ref a :: argsL).toArray = as') (hlen : ∀ sig, parseMethodDescriptor y.desc = some sig → argsL.length = sig.parameters.length)
    (hstack : g.stack = argsL.reverse ++ .ref a :: rest) (hW : 2 * g.monitorRoom + (rest.map fun v => v.category).sum ≤ W) (hdg : decode c.code g.pc = .ok (.invokevirtual index, 3)) (hc : cells + rm.cells ≤ R.cells) (hs : slots + rm.slots ≤ R.slots) :
    ∃ (v : Option Value) (T' : State) (L' : List Loc), Stand p l e R s m args below meth c T' (locs ++ L') (cells + rm.cells) (slots + rm.slots) ∧ Q v T'.heap L' ∧
      ∀ t, Steps p.tables e below (T'.setTop { g with pc := g.pc + 3, stack := v.toList ++ rest }) t → Steps p.tables e below (T.setTop g) t := by
  obtain ⟨cq, kq, qa, qb, qc⟩ := isOf hZ eT E
  obtain ⟨v, vm1, ⟨T', L, k, n⟩, -, X', ⟨L', hQ, e1, e2, e3⟩, st⟩ := X.virtualBack hx hown (mvT hZ w1) (mvT hZ w2) (notFace_of_selects (args := #[]) (mvT hZ w3)) (mvT hZ w3) (mvT hZ w4) hy (backOf (W := W) hM hZ w6 w5 hf hl) qa qc hg hsize (Steps.refl _) hlen hstack hW hdg (fun _ _ => ⟨has, eT, hc, hs⟩)
  dsimp only [Pt.U, Pt.locs, Pt.cells, Pt.slots] at X' e1 e2 e3 st hQ
  subst e1 e2 e3
  exact ⟨v, T', L', X', hQ, fun _ k => st.trans k⟩
/-- as own_callC, own_callV, where who pays is given -/
theorem own_callCB (X : Stand p l e R s m args below meth c T locs cells slots) (hx : p.tables.exec = Jvm.exec) (hZ : Z.Warmed39 s.vm) (hown : s.vm.findClass own = some m.cls) (hnm : y.name = "<init>") (w1 : (Jvm.Cond.methodLink own index y).before a0 Z = true) (w2 : (Jvm.Cond.instanceMethod y).before a0 Z = true) (w4 : (Jvm.Cond.code y bytes maxL none).before a0 Z = true)
    (hy : y.cls ≠ "java/lang/invoke/MethodHandle" ∧ y.cls ≠ "java/lang/invoke/VarHandle") {W kc kn : Nat} (hK : Back l R p e below s args y 3 W (fun P a => a = as' ∧ P.U.heap = h ∧ P.cells + kc ≤ R.cells ∧ P.slots + kn ≤ R.slots) (fun P _ v B => ∃ L, Q v B.U.heap L ∧ B.locs = P.locs ++ L ∧ B.cells = P.cells + kc ∧ B.slots = P.slots + kn)) (eT : T.heap = h)
    {g : JFrame} (hg : g.method = m) (hsize : g.locals.size = c.maxLocals) {a : Addr} {argsL rest : List Value} (has : (.ref a :: argsL).toArray = as') (hlen : ∀ sig, parseMethodDescriptor y.desc = some sig → argsL.length = sig.parameters.length)
    (hstack : g.stack = argsL.reverse ++ .ref a :: rest) (hW : 2 * g.monitorRoom + (rest.map fun v => v.category).sum ≤ W) (hdg : decode c.code g.pc = .ok (.invokespecial index, 3)) (hc : cells + kc ≤ R.cells) (hs : slots + kn ≤ R.slots) :
    ∃ (v : Option Value) (T' : State) (L' : List Loc), Stand p l e R s m args below meth c T' (locs ++ L') (cells + kc) (slots + kn) ∧ Q v T'.heap L' ∧
      ∀ t, Steps p.tables e below (T'.setTop { g with pc := g.pc + 3, stack := v.toList ++ rest }) t → Steps p.tables e below (T.setTop g) t := by
  obtain ⟨v, vm1, ⟨T', L, k, n⟩, -, X', ⟨L', hQ, e1, e2, e3⟩, st⟩ := X.specialBack hx hnm hown (mvT hZ w1) (mvT hZ w2) (mvT hZ w4) hy hK hg hsize (Steps.refl _) hlen hstack hW hdg (fun _ _ => ⟨has, eT, hc, hs⟩)
  dsimp only [Pt.U, Pt.locs, Pt.cells, Pt.slots] at X' e1 e2 e3 st hQ
  subst e1 e2 e3
  exact ⟨v, T', L', X', hQ, fun _ k => st.trans k⟩
theorem own_callVB (X : Stand p l e R s m args below meth c T locs cells slots) (hx : p.tables.exec = Jvm.exec) (hZ : Z.Warmed39 s.vm) (hown : s.vm.findClass own = some m.cls) {D : String} (w1 : (Jvm.Cond.methodLink own index y).before a0 Z = true) (w2 : (Jvm.Cond.declares y).before a0 Z = true) (w3 : (Jvm.Cond.selects D y y).before a0 Z = true) (w4 : (Jvm.Cond.instanceMethod y).before a0 Z = true)
    (hy : y.cls ≠ "java/lang/invoke/MethodHandle" ∧ y.cls ≠ "java/lang/invoke/VarHandle") {W kc kn : Nat} {Qb : Option Value → State → List Loc → Prop} (hK : Back l R p e below s args y 3 W (fun P a => a = as' ∧ P.U.heap = h ∧ P.cells + kc ≤ R.cells ∧ P.slots + kn ≤ R.slots) (fun P _ v B => ∃ L, Qb v B.U L ∧ B.locs = P.locs ++ L ∧ B.cells = P.cells + kc ∧ B.slots = P.slots + kn)) (eT : T.heap = h) {a : Addr} (E : Exa Z h a D)
    {g : JFrame} (hg : g.method = m) (hsize : g.locals.size = c.maxLocals) {argsL rest : List Value} (has : (.ref a :: argsL).toArray = as') (hlen : ∀ sig, parseMethodDescriptor y.desc = some sig → argsL.length = sig.parameters.length)
    (hstack : g.stack = argsL.reverse ++ .ref a :: rest) (hW : 2 * g.monitorRoom + (rest.map fun v => v.category).sum ≤ W) (hdg : decode c.code g.pc = .ok (.invokevirtual index, 3)) (hc : cells + kc ≤ R.cells) (hs : slots + kn ≤ R.slots) :
    ∃ (v : Option Value) (T' : State) (L' : List Loc), Stand p l e R s m args below meth c T' (locs ++ L') (cells + kc) (slots + kn) ∧ Qb v T' L' ∧
      ∀ t, Steps p.tables e below (T'.setTop { g with pc := g.pc + 3, stack := v.toList ++ rest }) t → Steps p.tables e below (T.setTop g) t := by
  obtain ⟨cq, kq, qa, qb, qc⟩ := isOf hZ eT E
  obtain ⟨v, vm1, ⟨T', L, k, n⟩, -, X', ⟨L', hQ, e1, e2, e3⟩, st⟩ := X.virtualBack hx hown (mvT hZ w1) (mvT hZ w2) (notFace_of_selects (args := #[]) (mvT hZ w3)) (mvT hZ w3) (mvT hZ w4) hy hK qa qc hg hsize (Steps.refl _) hlen hstack hW hdg (fun _ _ => ⟨has, eT, hc, hs⟩)
  dsimp only [Pt.U, Pt.locs, Pt.cells, Pt.slots] at X' e1 e2 e3 st hQ
  subst e1 e2 e3
  exact ⟨v, T', L', X', hQ, fun _ k => st.trans k⟩
end Calls
section Arrays
variable {a : Addr} {k : ClassId} {ty : FieldType} {z : Int32} {vs : List Value} {dv : Value}
theorem own_alen (X : Stand p l e R s m args below meth c T locs cells slots) (hx : p.tables.exec = Jvm.exec) (hZ : Z.Warmed39 s.vm) (eT : T.heap = h) (V : Arv Z h a k ty z vs dv) {g : JFrame} (hg : g.method = m) {rest : List Value} (hs : g.stack = .ref a :: rest) (hd : decode c.code g.pc = .ok (.arraylength, 1)) {target : State}
    (hr : Steps p.tables e below (T.setTop { g with pc := g.pc + 1, stack := .int z :: rest }) target) : Steps p.tables e below (T.setTop g) target := by
  obtain ⟨cl, Ar, -, S, M, -, -⟩ := V
  refine X.arraylength hx (cell := cl) (by rw [eT]; exact Ar.1) (State.isArrayOf_alike hZ.alike Ar.2.1) hg hs hd _ ?_
  rw [len_of S M]; exact hr
theorem own_aald {C : String} (X : Stand p l e R s m args below meth c T locs cells slots) (hx : p.tables.exec = Jvm.exec) (hZ : Z.Warmed39 s.vm) (eT : T.heap = h) (V : Arv Z h a k (.object C) z vs dv) {j : Int32} (h1 : ¬ j < 0) (h2 : j < z) {g : JFrame} (hg : g.method = m) {rest : List Value} (hs : g.stack = .int j :: .ref a :: rest) (hd : decode c.code g.pc = .ok (.aaload, 1)) {target : State}
    (hr : Steps p.tables e below (T.setTop { g with pc := g.pc + 1, stack := vs.getD j.toNatClampNeg dv :: rest }) target) : Steps p.tables e below (T.setTop g) target := by
  obtain ⟨cl, Ar, -, S, M, H, -⟩ := V
  have hin := inb_of S ⟨h1, h2⟩
  exact X.aaload hx (j := j) (v := vs.getD j.toNatClampNeg dv) (by rw [eT]; exact Ar.1) (State.isArrayOf_alike hZ.alike Ar.2.1) rfl Ar.2.2 hin (Has.at H hin rfl) hg hs hd _ hr
end Arrays
/-- a body that returns r and leaves the heap as it was -/
def own_QP (r : Option Value) (h0 : Heap) (n0 : Nat) (v : Option Value) (h : Heap) (L : List Loc) : Prop := v = r ∧ Fr n0 L ∧ h = h0
end OwnKit
theorem d1_0 : decode jdk_29_method_70_code 0 = .ok (.lload_n 0, 1) := by decide +kernel
theorem d1_1 : decode jdk_29_method_70_code 1 = .ok (.lload_n 2, 1) := by decide +kernel
theorem d1_2 : decode jdk_29_method_70_code 2 = .ok (.lcmp, 1) := by decide +kernel
theorem d1_3 : decode jdk_29_method_70_code 3 = .ok (.ifCond .gt 7, 3) := by decide +kernel
theorem d1_6 : decode jdk_29_method_70_code 6 = .ok (.lload_n 0, 1) := by decide +kernel
theorem d1_7 : decode jdk_29_method_70_code 7 = .ok (.goto 4, 3) := by decide +kernel
theorem d1_10 : decode jdk_29_method_70_code 10 = .ok (.lload_n 2, 1) := by decide +kernel
theorem d1_11 : decode jdk_29_method_70_code 11 = .ok (.lreturn, 1) := by decide +kernel
theorem pd0 : parseMethodDescriptor "(JJ)J" = some ⟨[.long, .long], some .long⟩ := by decide +kernel
theorem ef1 (m : MethodId) (j1 : Int64) (j2 : Int64) : entryFrame m #[(.long j1), (.long j2)] 4 = mkF m 0 #[.val (.long j1), .second, .val (.long j2), .second] [] := by first | (simp [entryFrame, mkF, argsToLocals, Value.category]; done) | rfl
def f1 (j1 : Int64) (j2 : Int64) : Int64 := (if j2 < j1 then j2 else j1)
set_option maxRecDepth 65536 in
set_option maxHeartbeats 40000000 in
theorem rm1 (l : Launch) (Z : State) (a0 : Array Value) (hw : ∀ d ∈ tables_1, d.before a0 Z = true) (ws : List Jvm.Cond) (j1 : Int64) (j2 : Int64) (h0 : Heap) (n0 : Nat) (Z0 : n0 ≤ h0.size)  :
    own_Met l (⟨"java/lang/Math", "min", "(JJ)J"⟩ : MethodName) jdk_29_method_70_code 4 (some .long) ({ frames := 0, cells := 0, slots := 0, locals := 0 } : Room) ws #[(.long j1), (.long j2)] Z h0 0 0 (own_QP (some (.long (f1 j1 j2))) h0 n0) := by
  refine own_met (Jvm.Free.JP.mathPlain rfl (by decide +kernel)) ?_
  intro p e s m below meth c s₁ hx hby hml hown hnm hret hlk hZ e0 X0
  have hml : c.maxLocals = 4 := hml
  have N0 := Fr.nil n0
  have K0 := Keep.refl h0 []
  refine own_go (fun _ k => castTop (ef1 m j1 j2) k) ?_
  show own_Fin p.tables e below _ (s₁.setTop (mkF m 0 #[.val (.long j1), .second, .val (.long j2), .second] []))
  refine own_go (fun _ k => XT.lloadN X0.here hx rfl (hb hby d1_0) rfl k) ?_
  show own_Fin p.tables e below _ (s₁.setTop (mkF m 1 #[.val (.long j1), .second, .val (.long j2), .second] [(.long j1)]))
  refine own_go (fun _ k => XT.lloadN X0.here hx rfl (hb hby d1_1) rfl k) ?_
  show own_Fin p.tables e below _ (s₁.setTop (mkF m 2 #[.val (.long j1), .second, .val (.long j2), .second] [(.long j2), (.long j1)]))
  refine own_go (fun _ k => XT.lcmp X0.here hx rfl (hb hby d1_2) rfl k) ?_
  show own_Fin p.tables e below _ (s₁.setTop (mkF m 3 #[.val (.long j1), .second, .val (.long j2), .second] [(.int (XT.cmpL j1 j2))]))
  by_cases hc1 : j2 < j1
  · refine own_go (fun _ k => XS.ifYes X0.here hx rfl (pc0 := 3) (pc' := 10) rfl (hb hby d1_3) rfl (XT.ll_gt_t hc1) (by decide) (by decide) k) ?_
    show own_Fin p.tables e below _ (s₁.setTop (mkF m 10 #[.val (.long j1), .second, .val (.long j2), .second] []))
    refine own_go (fun _ k => XT.lloadN X0.here hx rfl (hb hby d1_10) rfl k) ?_
    show own_Fin p.tables e below _ (s₁.setTop (mkF m 11 #[.val (.long j1), .second, .val (.long j2), .second] [(.long j2)]))
    refine own_retJ X0 hx hlk hret (hb hby d1_11) ?_ (by decide) (by decide)
    exact ⟨by rw [show f1 j1 j2 = j2 from by simp only [f1, if_pos hc1]] <;> rfl, N0, e0⟩
  · refine own_go (fun _ k => XS.ifNo X0.here hx rfl (hb hby d1_3) rfl (XT.ll_gt_f hc1) k) ?_
    show own_Fin p.tables e below _ (s₁.setTop (mkF m 6 #[.val (.long j1), .second, .val (.long j2), .second] []))
    refine own_go (fun _ k => XT.lloadN X0.here hx rfl (hb hby d1_6) rfl k) ?_
    show own_Fin p.tables e below _ (s₁.setTop (mkF m 7 #[.val (.long j1), .second, .val (.long j2), .second] [(.long j1)]))
    refine own_go (fun _ k => XS.goto X0.here hx rfl (pc0 := 7) (pc' := 11) rfl (hb hby d1_7) (by decide) (by decide) k) ?_
    show own_Fin p.tables e below _ (s₁.setTop (mkF m 11 #[.val (.long j1), .second, .val (.long j2), .second] [(.long j1)]))
    refine own_retJ X0 hx hlk hret (hb hby d1_11) ?_ (by decide) (by decide)
    exact ⟨by rw [show f1 j1 j2 = j1 from by simp only [f1, if_neg hc1]] <;> rfl, N0, e0⟩
theorem d2_0 : decode jdk_29_method_66_code 0 = .ok (.lload_n 0, 1) := by decide +kernel
theorem d2_1 : decode jdk_29_method_66_code 1 = .ok (.lload_n 2, 1) := by decide +kernel
theorem d2_2 : decode jdk_29_method_66_code 2 = .ok (.lcmp, 1) := by decide +kernel
theorem d2_3 : decode jdk_29_method_66_code 3 = .ok (.ifCond .lt 7, 3) := by decide +kernel
theorem d2_6 : decode jdk_29_method_66_code 6 = .ok (.lload_n 0, 1) := by decide +kernel
theorem d2_7 : decode jdk_29_method_66_code 7 = .ok (.goto 4, 3) := by decide +kernel
theorem d2_10 : decode jdk_29_method_66_code 10 = .ok (.lload_n 2, 1) := by decide +kernel
theorem d2_11 : decode jdk_29_method_66_code 11 = .ok (.lreturn, 1) := by decide +kernel
theorem ef2 (m : MethodId) (j1 : Int64) (j2 : Int64) : entryFrame m #[(.long j1), (.long j2)] 4 = mkF m 0 #[.val (.long j1), .second, .val (.long j2), .second] [] := by first | (simp [entryFrame, mkF, argsToLocals, Value.category]; done) | rfl
def f2 (j1 : Int64) (j2 : Int64) : Int64 := (if j1 < j2 then j2 else j1)
set_option maxRecDepth 65536 in
set_option maxHeartbeats 40000000 in
theorem rm2 (l : Launch) (Z : State) (a0 : Array Value) (hw : ∀ d ∈ tables_1, d.before a0 Z = true) (ws : List Jvm.Cond) (j1 : Int64) (j2 : Int64) (h0 : Heap) (n0 : Nat) (Z0 : n0 ≤ h0.size)  :
    own_Met l (⟨"java/lang/Math", "max", "(JJ)J"⟩ : MethodName) jdk_29_method_66_code 4 (some .long) ({ frames := 0, cells := 0, slots := 0, locals := 0 } : Room) ws #[(.long j1), (.long j2)] Z h0 0 0 (own_QP (some (.long (f2 j1 j2))) h0 n0) := by
  refine own_met (Jvm.Free.JP.mathPlain rfl (by decide +kernel)) ?_
  intro p e s m below meth c s₁ hx hby hml hown hnm hret hlk hZ e0 X0
  have hml : c.maxLocals = 4 := hml
  have N0 := Fr.nil n0
  have K0 := Keep.refl h0 []
  refine own_go (fun _ k => castTop (ef2 m j1 j2) k) ?_
  show own_Fin p.tables e below _ (s₁.setTop (mkF m 0 #[.val (.long j1), .second, .val (.long j2), .second] []))
  refine own_go (fun _ k => XT.lloadN X0.here hx rfl (hb hby d2_0) rfl k) ?_
  show own_Fin p.tables e below _ (s₁.setTop (mkF m 1 #[.val (.long j1), .second, .val (.long j2), .second] [(.long j1)]))
  refine own_go (fun _ k => XT.lloadN X0.here hx rfl (hb hby d2_1) rfl k) ?_
  show own_Fin p.tables e below _ (s₁.setTop (mkF m 2 #[.val (.long j1), .second, .val (.long j2), .second] [(.long j2), (.long j1)]))
  refine own_go (fun _ k => XT.lcmp X0.here hx rfl (hb hby d2_2) rfl k) ?_
  show own_Fin p.tables e below _ (s₁.setTop (mkF m 3 #[.val (.long j1), .second, .val (.long j2), .second] [(.int (XT.cmpL j1 j2))]))
  by_cases hc1 : j1 < j2
  · refine own_go (fun _ k => XS.ifYes X0.here hx rfl (pc0 := 3) (pc' := 10) rfl (hb hby d2_3) rfl (XT.ll_lt_t hc1) (by decide) (by decide) k) ?_
    show own_Fin p.tables e below _ (s₁.setTop (mkF m 10 #[.val (.long j1), .second, .val (.long j2), .second] []))
    refine own_go (fun _ k => XT.lloadN X0.here hx rfl (hb hby d2_10) rfl k) ?_
    show own_Fin p.tables e below _ (s₁.setTop (mkF m 11 #[.val (.long j1), .second, .val (.long j2), .second] [(.long j2)]))
    refine own_retJ X0 hx hlk hret (hb hby d2_11) ?_ (by decide) (by decide)
    exact ⟨by rw [show f2 j1 j2 = j2 from by simp only [f2, if_pos hc1]] <;> rfl, N0, e0⟩
  · refine own_go (fun _ k => XS.ifNo X0.here hx rfl (hb hby d2_3) rfl (XT.ll_lt_f hc1) k) ?_
    show own_Fin p.tables e below _ (s₁.setTop (mkF m 6 #[.val (.long j1), .second, .val (.long j2), .second] []))
    refine own_go (fun _ k => XT.lloadN X0.here hx rfl (hb hby d2_6) rfl k) ?_
    show own_Fin p.tables e below _ (s₁.setTop (mkF m 7 #[.val (.long j1), .second, .val (.long j2), .second] [(.long j1)]))
    refine own_go (fun _ k => XS.goto X0.here hx rfl (pc0 := 7) (pc' := 11) rfl (hb hby d2_7) (by decide) (by decide) k) ?_
    show own_Fin p.tables e below _ (s₁.setTop (mkF m 11 #[.val (.long j1), .second, .val (.long j2), .second] [(.long j1)]))
    refine own_retJ X0 hx hlk hret (hb hby d2_11) ?_ (by decide) (by decide)
    exact ⟨by rw [show f2 j1 j2 = j1 from by simp only [f2, if_neg hc1]] <;> rfl, N0, e0⟩
theorem d3_0 : decode jdk_30_method_1_code 0 = .ok (.aload_n 0, 1) := by decide +kernel
theorem d3_1 : decode jdk_30_method_1_code 1 = .ok (.invokespecial 1, 3) := by decide +kernel
theorem d3_4 : decode jdk_30_method_1_code 4 = .ok (.return_, 1) := by decide +kernel
theorem pn0 : plainName "java/lang/Record" = true := by first | (simp [plainName, overriddenIn]; done) | decide +kernel
theorem pd1 : parseMethodDescriptor "()V" = some ⟨[], none⟩ := by decide +kernel
theorem ef3 (m : MethodId) (r0 : Addr) : entryFrame m #[(.ref r0)] 1 = mkF m 0 #[.val (.ref r0)] [] := by first | (simp [entryFrame, mkF, argsToLocals, Value.category]; done) | rfl
set_option maxRecDepth 65536 in
set_option maxHeartbeats 40000000 in
theorem rm3 (l : Launch) (Z : State) (a0 : Array Value) (hw : ∀ d ∈ tables_1, d.before a0 Z = true) (ws : List Jvm.Cond) (r0 : Addr) (h0 : Heap) (n0 : Nat) (Z0 : n0 ≤ h0.size)  :
    own_Met l (⟨"java/lang/Record", "<init>", "()V"⟩ : MethodName) jdk_30_method_1_code 1 none ({ frames := 1, cells := 0, slots := 0, locals := 12 } : Room) ws #[(.ref r0)] Z h0 0 0 (own_QP none h0 n0) := by
  refine own_met (plainFor_of_name pn0) ?_
  intro p e s m below meth c s₁ hx hby hml hown hnm hret hlk hZ e0 X0
  have hml : c.maxLocals = 1 := hml
  have N0 := Fr.nil n0
  have K0 := Keep.refl h0 []
  refine own_go (fun _ k => castTop (ef3 m r0) k) ?_
  show own_Fin p.tables e below _ (s₁.setTop (mkF m 0 #[.val (.ref r0)] []))
  refine own_go (fun _ k => XS.aloadN X0.here hx rfl (hb hby d3_0) rfl rfl k) ?_
  show own_Fin p.tables e below _ (s₁.setTop (mkF m 1 #[.val (.ref r0)] [(.ref r0)]))
  obtain ⟨T1, X1, e1, st1⟩ := initO X0 hx hZ hown (hw _ (List.mem_of_getElem? (i := 21) rfl)) (hw _ (List.mem_of_getElem? (i := 22) rfl)) (hw _ (List.mem_of_getElem? (i := 23) rfl)) e0 (g := (mkF m 1 #[.val (.ref r0)] [(.ref r0)])) rfl (by rw [hml]; rfl) rfl (hb hby d3_1) (by decide) (W := 0) (by show 2 * 0 + _ ≤ _; exact Nat.le_of_eq rfl) (by decide)
  refine own_go st1 ?_
  show own_Fin p.tables e below _ (T1.setTop (mkF m 4 #[.val (.ref r0)] []))
  refine own_retV X1 hx hlk hret (hb hby d3_4) ?_ (by decide) (by decide)
  exact ⟨rfl, N0, e1⟩
theorem d4_0 : decode prog_29_method_1_code 0 = .ok (.aload_n 0, 1) := by decide +kernel
theorem d4_1 : decode prog_29_method_1_code 1 = .ok (.invokespecial 1, 3) := by decide +kernel
theorem d4_4 : decode prog_29_method_1_code 4 = .ok (.iload_n 1, 1) := by decide +kernel
theorem d4_5 : decode prog_29_method_1_code 5 = .ok (.iconst 1, 1) := by decide +kernel
theorem d4_6 : decode prog_29_method_1_code 6 = .ok (.if_icmp .lt 14, 3) := by decide +kernel
theorem d4_9 : decode prog_29_method_1_code 9 = .ok (.iload_n 2, 1) := by decide +kernel
theorem d4_10 : decode prog_29_method_1_code 10 = .ok (.ldc 9, 2) := by decide +kernel
theorem d4_12 : decode prog_29_method_1_code 12 = .ok (.if_icmp .gt 8, 3) := by decide +kernel
theorem d4_15 : decode prog_29_method_1_code 15 = .ok (.iload_n 2, 1) := by decide +kernel
theorem d4_16 : decode prog_29_method_1_code 16 = .ok (.iload_n 1, 1) := by decide +kernel
theorem d4_17 : decode prog_29_method_1_code 17 = .ok (.if_icmp .ge 18, 3) := by decide +kernel
theorem d4_35 : decode prog_29_method_1_code 35 = .ok (.aload_n 0, 1) := by decide +kernel
theorem d4_36 : decode prog_29_method_1_code 36 = .ok (.iload_n 1, 1) := by decide +kernel
theorem d4_37 : decode prog_29_method_1_code 37 = .ok (.putfield 19, 3) := by decide +kernel
theorem d4_40 : decode prog_29_method_1_code 40 = .ok (.aload_n 0, 1) := by decide +kernel
theorem d4_41 : decode prog_29_method_1_code 41 = .ok (.iload_n 2, 1) := by decide +kernel
theorem d4_42 : decode prog_29_method_1_code 42 = .ok (.putfield 25, 3) := by decide +kernel
theorem d4_45 : decode prog_29_method_1_code 45 = .ok (.return_, 1) := by decide +kernel
theorem pn1 : plainName "com/example/grantline/grantline/eval/EphemeralPorts" = true := by first | (simp [plainName, overriddenIn]; done) | decide +kernel
theorem pd2 : parseMethodDescriptor "(II)V" = some ⟨[.int, .int], none⟩ := by decide +kernel
theorem ef4 (m : MethodId) (r0 : Addr) (i1 : Int32) (i2 : Int32) : entryFrame m #[(.ref r0), (.int i1), (.int i2)] 3 = mkF m 0 #[.val (.ref r0), .val (.int i1), .val (.int i2)] [] := by first | (simp [entryFrame, mkF, argsToLocals, Value.category]; done) | rfl
set_option maxRecDepth 65536 in
set_option maxHeartbeats 40000000 in
theorem rm4 (l : Launch) (Z : State) (a0 : Array Value) (hw : ∀ d ∈ tables_1, d.before a0 Z = true) (ws : List Jvm.Cond) (r0 : Addr) (i1 : Int32) (i2 : Int32) (u_low : Value) (u_high : Value) (h0 : Heap) (n0 : Nat) (Z0 : n0 ≤ h0.size) (E_a : Exa Z h0 r0 "com/example/grantline/grantline/eval/EphemeralPorts") (F_low : Fld Z h0 r0 "com/example/grantline/grantline/eval/EphemeralPorts" "low" "I" u_low) (F_high : Fld Z h0 r0 "com/example/grantline/grantline/eval/EphemeralPorts" "high" "I" u_high) (g_a : n0 ≤ r0) (hA : ¬ i1 < (1 : Int32)) (hB : ¬ (65535 : Int32) < i2) (hC : ¬ i2 < i1) :
    own_Met l (⟨"com/example/grantline/grantline/eval/EphemeralPorts", "<init>", "(II)V"⟩ : MethodName) prog_29_method_1_code 3 none ({ frames := 2, cells := 0, slots := 0, locals := 24 } : Room) ws #[(.ref r0), (.int i1), (.int i2)] Z h0 0 0 (fun v h L => v = none ∧ Fr n0 L ∧ Keep h0 h [r0] ∧ Exa Z h r0 "com/example/grantline/grantline/eval/EphemeralPorts" ∧ Fld Z h r0 "com/example/grantline/grantline/eval/EphemeralPorts" "low" "I" (.int i1) ∧ Fld Z h r0 "com/example/grantline/grantline/eval/EphemeralPorts" "high" "I" (.int i2)) := by
  refine own_met (plainFor_of_name pn1) ?_
  intro p e s m below meth c s₁ hx hby hml hown hnm hret hlk hZ e0 X0
  have hml : c.maxLocals = 3 := hml
  have N0 := Fr.nil n0
  have K0 := Keep.refl h0 [r0]
  refine own_go (fun _ k => castTop (ef4 m r0 i1 i2) k) ?_
  show own_Fin p.tables e below _ (s₁.setTop (mkF m 0 #[.val (.ref r0), .val (.int i1), .val (.int i2)] []))
  refine own_go (fun _ k => XS.aloadN X0.here hx rfl (hb hby d4_0) rfl rfl k) ?_
  show own_Fin p.tables e below _ (s₁.setTop (mkF m 1 #[.val (.ref r0), .val (.int i1), .val (.int i2)] [(.ref r0)]))
  obtain ⟨_, T1, L1, X1, ⟨rfl, M1, e1⟩, st1⟩ := own_callC X0 hx hZ hown rfl (hw _ (List.mem_of_getElem? (i := 16) rfl)) (hw _ (List.mem_of_getElem? (i := 17) rfl)) (hw _ (List.mem_of_getElem? (i := 19) rfl)) (hw _ (List.mem_of_getElem? (i := 20) rfl)) (by decide) (W := 0) (rm3 l Z a0 hw [] r0 h0 n0 (Nat.le_trans Z0 K0.1) ) (by decide) (by decide) e0 (g := (mkF m 1 #[.val (.ref r0), .val (.int i1), .val (.int i2)] [(.ref r0)])) rfl (by rw [hml]; rfl) (argsL := []) (rest := []) rfl (lenOf pd1 rfl) rfl (by show 2 * 0 + _ ≤ _; exact Nat.le_of_eq rfl) (hb hby d4_1) (by decide) (by decide)
  have N1 := Fr.app N0 M1
  refine own_go st1 ?_
  show own_Fin p.tables e below _ (T1.setTop (mkF m 4 #[.val (.ref r0), .val (.int i1), .val (.int i2)] []))
  refine own_go (fun _ k => XS.iloadN X1.here hx rfl (hb hby d4_4) rfl k) ?_
  show own_Fin p.tables e below _ (T1.setTop (mkF m 5 #[.val (.ref r0), .val (.int i1), .val (.int i2)] [(.int i1)]))
  refine own_go (fun _ k => XT.iconstV X1.here hx rfl (1 : Int32) (hb hby d4_5) (by decide) k) ?_
  show own_Fin p.tables e below _ (T1.setTop (mkF m 6 #[.val (.ref r0), .val (.int i1), .val (.int i2)] [(.int (1 : Int32)), (.int i1)]))
  refine own_go (fun _ k => XS.icmpNo X1.here hx rfl (hb hby d4_6) rfl (XT.ii_lt_f hA) k) ?_
  show own_Fin p.tables e below _ (T1.setTop (mkF m 9 #[.val (.ref r0), .val (.int i1), .val (.int i2)] []))
  refine own_go (fun _ k => XS.iloadN X1.here hx rfl (hb hby d4_9) rfl k) ?_
  show own_Fin p.tables e below _ (T1.setTop (mkF m 10 #[.val (.ref r0), .val (.int i1), .val (.int i2)] [(.int i2)]))
  refine own_go (fun _ k => X1.ldcI hx hown (mvT hZ (hw _ (List.mem_of_getElem? (i := 24) rfl))) rfl (hb hby d4_10) k) ?_
  show own_Fin p.tables e below _ (T1.setTop (mkF m 12 #[.val (.ref r0), .val (.int i1), .val (.int i2)] [(.int (65535 : Int32)), (.int i2)]))
  refine own_go (fun _ k => XS.icmpNo X1.here hx rfl (hb hby d4_12) rfl (XT.ii_gt_f hB) k) ?_
  show own_Fin p.tables e below _ (T1.setTop (mkF m 15 #[.val (.ref r0), .val (.int i1), .val (.int i2)] []))
  refine own_go (fun _ k => XS.iloadN X1.here hx rfl (hb hby d4_15) rfl k) ?_
  show own_Fin p.tables e below _ (T1.setTop (mkF m 16 #[.val (.ref r0), .val (.int i1), .val (.int i2)] [(.int i2)]))
  refine own_go (fun _ k => XS.iloadN X1.here hx rfl (hb hby d4_16) rfl k) ?_
  show own_Fin p.tables e below _ (T1.setTop (mkF m 17 #[.val (.ref r0), .val (.int i1), .val (.int i2)] [(.int i1), (.int i2)]))
  refine own_go (fun _ k => XS.icmpYes X1.here hx rfl (pc0 := 17) (pc' := 35) rfl (hb hby d4_17) rfl (XT.ii_ge_t hC) (by decide) (by decide) k) ?_
  show own_Fin p.tables e below _ (T1.setTop (mkF m 35 #[.val (.ref r0), .val (.int i1), .val (.int i2)] []))
  refine own_go (fun _ k => XS.aloadN X1.here hx rfl (hb hby d4_35) rfl rfl k) ?_
  show own_Fin p.tables e below _ (T1.setTop (mkF m 36 #[.val (.ref r0), .val (.int i1), .val (.int i2)] [(.ref r0)]))
  refine own_go (fun _ k => XS.iloadN X1.here hx rfl (hb hby d4_36) rfl k) ?_
  show own_Fin p.tables e below _ (T1.setTop (mkF m 37 #[.val (.ref r0), .val (.int i1), .val (.int i2)] [(.int i1), (.ref r0)]))
  obtain ⟨T2, h2, X2, e2, W2, st2⟩ := putF X1 hx hZ hown (host := "") (Or.inl (hw _ (List.mem_of_getElem? (i := 25) rfl))) Via.refl e1 F_low E_a (Or.inr ⟨(hw _ (List.mem_of_getElem? (i := 26) rfl)), rfl, hnm⟩) (hw _ (List.mem_of_getElem? (i := 11) rfl)) (ty := .int) (by decide) rfl rfl (g := (mkF m 37 #[.val (.ref r0), .val (.int i1), .val (.int i2)] [(.int i1), (.ref r0)])) rfl rfl (hb hby d4_37)
  have K2 := K0.wr W2 (Or.inl (List.mem_of_getElem? (i := 0) rfl))
  have N2 := Fr.snoc X2 N1 g_a
  have Er0_2 := E_a.wr W2
  have Fr0_low_2 := F_low.same W2
  have Fr0_high_2 := F_high.other W2 (Or.inr (slot_ne (Or.inr (hw _ (List.mem_of_getElem? (i := 28) rfl))) (Or.inr (hw _ (List.mem_of_getElem? (i := 26) rfl))) (by decide) (t := .int) (t' := .int) (by decide) (by decide)))
  refine own_go st2 ?_
  show own_Fin p.tables e below _ (T2.setTop (mkF m 40 #[.val (.ref r0), .val (.int i1), .val (.int i2)] []))
  refine own_go (fun _ k => XS.aloadN X2.here hx rfl (hb hby d4_40) rfl rfl k) ?_
  show own_Fin p.tables e below _ (T2.setTop (mkF m 41 #[.val (.ref r0), .val (.int i1), .val (.int i2)] [(.ref r0)]))
  refine own_go (fun _ k => XS.iloadN X2.here hx rfl (hb hby d4_41) rfl k) ?_
  show own_Fin p.tables e below _ (T2.setTop (mkF m 42 #[.val (.ref r0), .val (.int i1), .val (.int i2)] [(.int i2), (.ref r0)]))
  obtain ⟨T3, h3, X3, e3, W3, st3⟩ := putF X2 hx hZ hown (host := "") (Or.inl (hw _ (List.mem_of_getElem? (i := 27) rfl))) Via.refl e2 Fr0_high_2 Er0_2 (Or.inr ⟨(hw _ (List.mem_of_getElem? (i := 28) rfl)), rfl, hnm⟩) (hw _ (List.mem_of_getElem? (i := 11) rfl)) (ty := .int) (by decide) rfl rfl (g := (mkF m 42 #[.val (.ref r0), .val (.int i1), .val (.int i2)] [(.int i2), (.ref r0)])) rfl rfl (hb hby d4_42)
  have K3 := K2.wr W3 (Or.inl (List.mem_of_getElem? (i := 0) rfl))
  have N3 := Fr.snoc X3 N2 g_a
  have Er0_3 := Er0_2.wr W3
  have Fr0_low_3 := Fr0_low_2.other W3 (Or.inr (slot_ne (Or.inr (hw _ (List.mem_of_getElem? (i := 26) rfl))) (Or.inr (hw _ (List.mem_of_getElem? (i := 28) rfl))) (by decide) (t := .int) (t' := .int) (by decide) (by decide)))
  have Fr0_high_3 := Fr0_high_2.same W3
  refine own_go st3 ?_
  show own_Fin p.tables e below _ (T3.setTop (mkF m 45 #[.val (.ref r0), .val (.int i1), .val (.int i2)] []))
  refine own_retV X3 hx hlk hret (hb hby d4_45) ?_ (by decide) (by decide)
  show _ ∧ _ ∧ Keep h0 T3.heap _ ∧ _
  rw [e3]
  exact ⟨rfl, N3, K3, Er0_3, Fr0_low_3, Fr0_high_3⟩
theorem d5_0 : decode prog_29_method_3_code 0 = .ok (.aload_n 0, 1) := by decide +kernel
theorem d5_1 : decode prog_29_method_3_code 1 = .ok (.getfield 19, 3) := by decide +kernel
theorem d5_4 : decode prog_29_method_3_code 4 = .ok (.i2l, 1) := by decide +kernel
theorem d5_5 : decode prog_29_method_3_code 5 = .ok (.lload_n 1, 1) := by decide +kernel
theorem d5_6 : decode prog_29_method_3_code 6 = .ok (.lcmp, 1) := by decide +kernel
theorem d5_7 : decode prog_29_method_3_code 7 = .ok (.ifCond .gt 17, 3) := by decide +kernel
theorem d5_10 : decode prog_29_method_3_code 10 = .ok (.lload_n 3, 1) := by decide +kernel
theorem d5_11 : decode prog_29_method_3_code 11 = .ok (.aload_n 0, 1) := by decide +kernel
theorem d5_12 : decode prog_29_method_3_code 12 = .ok (.getfield 25, 3) := by decide +kernel
theorem d5_15 : decode prog_29_method_3_code 15 = .ok (.i2l, 1) := by decide +kernel
theorem d5_16 : decode prog_29_method_3_code 16 = .ok (.lcmp, 1) := by decide +kernel
theorem d5_17 : decode prog_29_method_3_code 17 = .ok (.ifCond .gt 7, 3) := by decide +kernel
theorem d5_20 : decode prog_29_method_3_code 20 = .ok (.iconst 1, 1) := by decide +kernel
theorem d5_21 : decode prog_29_method_3_code 21 = .ok (.goto 4, 3) := by decide +kernel
theorem d5_24 : decode prog_29_method_3_code 24 = .ok (.iconst 0, 1) := by decide +kernel
theorem d5_25 : decode prog_29_method_3_code 25 = .ok (.ireturn, 1) := by decide +kernel
theorem pd3 : parseMethodDescriptor "(JJ)Z" = some ⟨[.long, .long], some .boolean⟩ := by decide +kernel
theorem ef5 (m : MethodId) (r0 : Addr) (j1 : Int64) (j2 : Int64) : entryFrame m #[(.ref r0), (.long j1), (.long j2)] 5 = mkF m 0 #[.val (.ref r0), .val (.long j1), .second, .val (.long j2), .second] [] := by first | (simp [entryFrame, mkF, argsToLocals, Value.category]; done) | rfl
def f5 (j1 : Int64) (j2 : Int64) (i8 : Int32) (i9 : Int32) : Int32 := (if j1 < (i8.toInt64) then (0 : Int32) else (if (i9.toInt64) < j2 then (0 : Int32) else (1 : Int32)))
set_option maxRecDepth 65536 in
set_option maxHeartbeats 40000000 in
theorem rm5 (l : Launch) (Z : State) (a0 : Array Value) (hw : ∀ d ∈ tables_1, d.before a0 Z = true) (ws : List Jvm.Cond) (r0 : Addr) (j1 : Int64) (j2 : Int64) (h0 : Heap) (n0 : Nat) (Z0 : n0 ≤ h0.size) (i8 : Int32) (i9 : Int32) (F1 : Fld Z h0 r0 "com/example/grantline/grantline/eval/EphemeralPorts" "low" "I" (.int i8)) (F2 : Fld Z h0 r0 "com/example/grantline/grantline/eval/EphemeralPorts" "high" "I" (.int i9)) :
    own_Met l (⟨"com/example/grantline/grantline/eval/EphemeralPorts", "holds", "(JJ)Z"⟩ : MethodName) prog_29_method_3_code 5 (some .boolean) ({ frames := 0, cells := 0, slots := 0, locals := 0 } : Room) ws #[(.ref r0), (.long j1), (.long j2)] Z h0 0 0 (own_QP (some (.int (f5 j1 j2 i8 i9))) h0 n0) := by
  refine own_met (plainFor_of_name pn1) ?_
  intro p e s m below meth c s₁ hx hby hml hown hnm hret hlk hZ e0 X0
  have hml : c.maxLocals = 5 := hml
  have N0 := Fr.nil n0
  have K0 := Keep.refl h0 []
  refine own_go (fun _ k => castTop (ef5 m r0 j1 j2) k) ?_
  show own_Fin p.tables e below _ (s₁.setTop (mkF m 0 #[.val (.ref r0), .val (.long j1), .second, .val (.long j2), .second] []))
  refine own_go (fun _ k => XS.aloadN X0.here hx rfl (hb hby d5_0) rfl rfl k) ?_
  show own_Fin p.tables e below _ (s₁.setTop (mkF m 1 #[.val (.ref r0), .val (.long j1), .second, .val (.long j2), .second] [(.ref r0)]))
  obtain ⟨T1, X1, e1, st1⟩ := getF X0 hx hZ hown (host := "") (Or.inl (hw _ (List.mem_of_getElem? (i := 25) rfl))) Via.refl e0 F1 (g := (mkF m 1 #[.val (.ref r0), .val (.long j1), .second, .val (.long j2), .second] [(.ref r0)])) rfl rfl (hb hby d5_1)
  refine own_go st1 ?_
  show own_Fin p.tables e below _ (T1.setTop (mkF m 4 #[.val (.ref r0), .val (.long j1), .second, .val (.long j2), .second] [(.int i8)]))
  refine own_go (fun _ k => XT.i2l X1.here hx rfl (hb hby d5_4) rfl k) ?_
  show own_Fin p.tables e below _ (T1.setTop (mkF m 5 #[.val (.ref r0), .val (.long j1), .second, .val (.long j2), .second] [(.long (i8.toInt64))]))
  refine own_go (fun _ k => XT.lloadN X1.here hx rfl (hb hby d5_5) rfl k) ?_
  show own_Fin p.tables e below _ (T1.setTop (mkF m 6 #[.val (.ref r0), .val (.long j1), .second, .val (.long j2), .second] [(.long j1), (.long (i8.toInt64))]))
  refine own_go (fun _ k => XT.lcmp X1.here hx rfl (hb hby d5_6) rfl k) ?_
  show own_Fin p.tables e below _ (T1.setTop (mkF m 7 #[.val (.ref r0), .val (.long j1), .second, .val (.long j2), .second] [(.int (XT.cmpL (i8.toInt64) j1))]))
  by_cases hc2 : j1 < (i8.toInt64)
  · refine own_go (fun _ k => XS.ifYes X1.here hx rfl (pc0 := 7) (pc' := 24) rfl (hb hby d5_7) rfl (XT.ll_gt_t hc2) (by decide) (by decide) k) ?_
    show own_Fin p.tables e below _ (T1.setTop (mkF m 24 #[.val (.ref r0), .val (.long j1), .second, .val (.long j2), .second] []))
    refine own_go (fun _ k => XT.iconstV X1.here hx rfl (0 : Int32) (hb hby d5_24) (by decide) k) ?_
    show own_Fin p.tables e below _ (T1.setTop (mkF m 25 #[.val (.ref r0), .val (.long j1), .second, .val (.long j2), .second] [(.int (0 : Int32))]))
    refine own_retN X1 hx hlk (t := .boolean) hret (by simp) (hb hby d5_25) ?_ (by decide) (by decide)
    exact ⟨by rw [show f5 j1 j2 i8 i9 = (0 : Int32) from by simp only [f5, if_pos hc2]] <;> rfl, N0, e1⟩
  · refine own_go (fun _ k => XS.ifNo X1.here hx rfl (hb hby d5_7) rfl (XT.ll_gt_f hc2) k) ?_
    show own_Fin p.tables e below _ (T1.setTop (mkF m 10 #[.val (.ref r0), .val (.long j1), .second, .val (.long j2), .second] []))
    refine own_go (fun _ k => XT.lloadN X1.here hx rfl (hb hby d5_10) rfl k) ?_
    show own_Fin p.tables e below _ (T1.setTop (mkF m 11 #[.val (.ref r0), .val (.long j1), .second, .val (.long j2), .second] [(.long j2)]))
    refine own_go (fun _ k => XS.aloadN X1.here hx rfl (hb hby d5_11) rfl rfl k) ?_
    show own_Fin p.tables e below _ (T1.setTop (mkF m 12 #[.val (.ref r0), .val (.long j1), .second, .val (.long j2), .second] [(.ref r0), (.long j2)]))
    obtain ⟨T3, X3, e3, st3⟩ := getF X1 hx hZ hown (host := "") (Or.inl (hw _ (List.mem_of_getElem? (i := 27) rfl))) Via.refl e1 F2 (g := (mkF m 12 #[.val (.ref r0), .val (.long j1), .second, .val (.long j2), .second] [(.ref r0), (.long j2)])) rfl rfl (hb hby d5_12)
    refine own_go st3 ?_
    show own_Fin p.tables e below _ (T3.setTop (mkF m 15 #[.val (.ref r0), .val (.long j1), .second, .val (.long j2), .second] [(.int i9), (.long j2)]))
    refine own_go (fun _ k => XT.i2l X3.here hx rfl (hb hby d5_15) rfl k) ?_
    show own_Fin p.tables e below _ (T3.setTop (mkF m 16 #[.val (.ref r0), .val (.long j1), .second, .val (.long j2), .second] [(.long (i9.toInt64)), (.long j2)]))
    refine own_go (fun _ k => XT.lcmp X3.here hx rfl (hb hby d5_16) rfl k) ?_
    show own_Fin p.tables e below _ (T3.setTop (mkF m 17 #[.val (.ref r0), .val (.long j1), .second, .val (.long j2), .second] [(.int (XT.cmpL j2 (i9.toInt64)))]))
    by_cases hc4 : (i9.toInt64) < j2
    · refine own_go (fun _ k => XS.ifYes X3.here hx rfl (pc0 := 17) (pc' := 24) rfl (hb hby d5_17) rfl (XT.ll_gt_t hc4) (by decide) (by decide) k) ?_
      show own_Fin p.tables e below _ (T3.setTop (mkF m 24 #[.val (.ref r0), .val (.long j1), .second, .val (.long j2), .second] []))
      refine own_go (fun _ k => XT.iconstV X3.here hx rfl (0 : Int32) (hb hby d5_24) (by decide) k) ?_
      show own_Fin p.tables e below _ (T3.setTop (mkF m 25 #[.val (.ref r0), .val (.long j1), .second, .val (.long j2), .second] [(.int (0 : Int32))]))
      refine own_retN X3 hx hlk (t := .boolean) hret (by simp) (hb hby d5_25) ?_ (by decide) (by decide)
      exact ⟨by rw [show f5 j1 j2 i8 i9 = (0 : Int32) from by simp only [f5, if_neg hc2, if_pos hc4]] <;> rfl, N0, e3⟩
    · refine own_go (fun _ k => XS.ifNo X3.here hx rfl (hb hby d5_17) rfl (XT.ll_gt_f hc4) k) ?_
      show own_Fin p.tables e below _ (T3.setTop (mkF m 20 #[.val (.ref r0), .val (.long j1), .second, .val (.long j2), .second] []))
      refine own_go (fun _ k => XT.iconstV X3.here hx rfl (1 : Int32) (hb hby d5_20) (by decide) k) ?_
      show own_Fin p.tables e below _ (T3.setTop (mkF m 21 #[.val (.ref r0), .val (.long j1), .second, .val (.long j2), .second] [(.int (1 : Int32))]))
      refine own_go (fun _ k => XS.goto X3.here hx rfl (pc0 := 21) (pc' := 25) rfl (hb hby d5_21) (by decide) (by decide) k) ?_
      show own_Fin p.tables e below _ (T3.setTop (mkF m 25 #[.val (.ref r0), .val (.long j1), .second, .val (.long j2), .second] [(.int (1 : Int32))]))
      refine own_retN X3 hx hlk (t := .boolean) hret (by simp) (hb hby d5_25) ?_ (by decide) (by decide)
      exact ⟨by rw [show f5 j1 j2 i8 i9 = (1 : Int32) from by simp only [f5, if_neg hc2, if_neg hc4]] <;> rfl, N0, e3⟩
theorem d6_0 : decode method_2_code 0 = .ok (.lload_n 0, 1) := by decide +kernel
theorem d6_1 : decode method_2_code 1 = .ok (.iload_n 3, 1) := by decide +kernel
theorem d6_2 : decode method_2_code 2 = .ok (.i2l, 1) := by decide +kernel
theorem d6_3 : decode method_2_code 3 = .ok (.invokestatic 7, 3) := by decide +kernel
theorem d6_6 : decode method_2_code 6 = .ok (.iload_n 2, 1) := by decide +kernel
theorem d6_7 : decode method_2_code 7 = .ok (.i2l, 1) := by decide +kernel
theorem d6_8 : decode method_2_code 8 = .ok (.invokestatic 13, 3) := by decide +kernel
theorem d6_11 : decode method_2_code 11 = .ok (.lreturn, 1) := by decide +kernel
theorem pn2 : plainName "com/example/grantline/grantline/eval/EphemeralPortsHoldsPinLaw" = true := by first | (simp [plainName, overriddenIn]; done) | decide +kernel
theorem pd4 : parseMethodDescriptor "(JII)J" = some ⟨[.long, .int, .int], some .long⟩ := by decide +kernel
theorem ef6 (m : MethodId) (j1 : Int64) (i1 : Int32) (i2 : Int32) : entryFrame m #[(.long j1), (.int i1), (.int i2)] 4 = mkF m 0 #[.val (.long j1), .second, .val (.int i1), .val (.int i2)] [] := by first | (simp [entryFrame, mkF, argsToLocals, Value.category]; done) | rfl
def f6 (j1 : Int64) (i1 : Int32) (i2 : Int32) : Int64 := (f2 (f1 j1 (i2.toInt64)) (i1.toInt64))
set_option maxRecDepth 65536 in
set_option maxHeartbeats 40000000 in
theorem rm6 (l : Launch) (Z : State) (a0 : Array Value) (hw : ∀ d ∈ tables_1, d.before a0 Z = true) (ws : List Jvm.Cond) (j1 : Int64) (i1 : Int32) (i2 : Int32) (h0 : Heap) (n0 : Nat) (Z0 : n0 ≤ h0.size)  :
    own_Met l (⟨"com/example/grantline/grantline/eval/EphemeralPortsHoldsPinLaw", "clamp", "(JII)J"⟩ : MethodName) method_2_code 4 (some .long) ({ frames := 1, cells := 0, slots := 0, locals := 15 } : Room) ws #[(.long j1), (.int i1), (.int i2)] Z h0 0 0 (own_QP (some (.long (f6 j1 i1 i2))) h0 n0) := by
  refine own_met (plainFor_of_name pn2) ?_
  intro p e s m below meth c s₁ hx hby hml hown hnm hret hlk hZ e0 X0
  have hml : c.maxLocals = 4 := hml
  have N0 := Fr.nil n0
  have K0 := Keep.refl h0 []
  refine own_go (fun _ k => castTop (ef6 m j1 i1 i2) k) ?_
  show own_Fin p.tables e below _ (s₁.setTop (mkF m 0 #[.val (.long j1), .second, .val (.int i1), .val (.int i2)] []))
  refine own_go (fun _ k => XT.lloadN X0.here hx rfl (hb hby d6_0) rfl k) ?_
  show own_Fin p.tables e below _ (s₁.setTop (mkF m 1 #[.val (.long j1), .second, .val (.int i1), .val (.int i2)] [(.long j1)]))
  refine own_go (fun _ k => XS.iloadN X0.here hx rfl (hb hby d6_1) rfl k) ?_
  show own_Fin p.tables e below _ (s₁.setTop (mkF m 2 #[.val (.long j1), .second, .val (.int i1), .val (.int i2)] [(.int i2), (.long j1)]))
  refine own_go (fun _ k => XT.i2l X0.here hx rfl (hb hby d6_2) rfl k) ?_
  show own_Fin p.tables e below _ (s₁.setTop (mkF m 3 #[.val (.long j1), .second, .val (.int i1), .val (.int i2)] [(.long (i2.toInt64)), (.long j1)]))
  obtain ⟨_, T1, L1, X1, ⟨rfl, M1, e1⟩, st1⟩ := own_callS X0 hx hZ hown (hw _ (List.mem_of_getElem? (i := 3) rfl)) (hw _ (List.mem_of_getElem? (i := 4) rfl)) (hw _ (List.mem_of_getElem? (i := 5) rfl)) (hw _ (List.mem_of_getElem? (i := 6) rfl)) (by decide) (W := 0) (rm1 l Z a0 hw [] j1 (i2.toInt64) h0 n0 (Nat.le_trans Z0 K0.1) ) (by decide) (by decide) e0 (g := (mkF m 3 #[.val (.long j1), .second, .val (.int i1), .val (.int i2)] [(.long (i2.toInt64)), (.long j1)])) rfl (by rw [hml]; rfl) (argsL := [(.long j1), (.long (i2.toInt64))]) (rest := []) rfl (lenOf pd0 rfl) rfl (by show 2 * 0 + _ ≤ _; exact Nat.le_of_eq rfl) (hb hby d6_3) (by decide) (by decide)
  have N1 := Fr.app N0 M1
  refine own_go st1 ?_
  show own_Fin p.tables e below _ (T1.setTop (mkF m 6 #[.val (.long j1), .second, .val (.int i1), .val (.int i2)] [(.long (f1 j1 (i2.toInt64)))]))
  refine own_go (fun _ k => XS.iloadN X1.here hx rfl (hb hby d6_6) rfl k) ?_
  show own_Fin p.tables e below _ (T1.setTop (mkF m 7 #[.val (.long j1), .second, .val (.int i1), .val (.int i2)] [(.int i1), (.long (f1 j1 (i2.toInt64)))]))
  refine own_go (fun _ k => XT.i2l X1.here hx rfl (hb hby d6_7) rfl k) ?_
  show own_Fin p.tables e below _ (T1.setTop (mkF m 8 #[.val (.long j1), .second, .val (.int i1), .val (.int i2)] [(.long (i1.toInt64)), (.long (f1 j1 (i2.toInt64)))]))
  obtain ⟨_, T2, L2, X2, ⟨rfl, M2, e2⟩, st2⟩ := own_callS X1 hx hZ hown (hw _ (List.mem_of_getElem? (i := 7) rfl)) (hw _ (List.mem_of_getElem? (i := 8) rfl)) (hw _ (List.mem_of_getElem? (i := 5) rfl)) (hw _ (List.mem_of_getElem? (i := 9) rfl)) (by decide) (W := 0) (rm2 l Z a0 hw [] (f1 j1 (i2.toInt64)) (i1.toInt64) h0 n0 (Nat.le_trans Z0 K0.1) ) (by decide) (by decide) e1 (g := (mkF m 8 #[.val (.long j1), .second, .val (.int i1), .val (.int i2)] [(.long (i1.toInt64)), (.long (f1 j1 (i2.toInt64)))])) rfl (by rw [hml]; rfl) (argsL := [(.long (f1 j1 (i2.toInt64))), (.long (i1.toInt64))]) (rest := []) rfl (lenOf pd0 rfl) rfl (by show 2 * 0 + _ ≤ _; exact Nat.le_of_eq rfl) (hb hby d6_8) (by decide) (by decide)
  have N2 := Fr.app N1 M2
  refine own_go st2 ?_
  show own_Fin p.tables e below _ (T2.setTop (mkF m 11 #[.val (.long j1), .second, .val (.int i1), .val (.int i2)] [(.long (f2 (f1 j1 (i2.toInt64)) (i1.toInt64)))]))
  refine own_retJ X2 hx hlk hret (hb hby d6_11) ?_ (by decide) (by decide)
  exact ⟨rfl, N2, e2⟩
def own_low (i1 : Int32) : Int32 := (1 : Int32) + (i1 &&& (2147483647 : Int32)) % (65535 : Int32)
theorem own_rem (i1 k : Int32) (hk : 0 < k.toInt) : 0 ≤ ((i1 &&& (2147483647 : Int32)) % k).toInt ∧ ((i1 &&& (2147483647 : Int32)) % k).toInt < k.toInt := by
  have h1 : (i1 &&& 2147483647).toInt = i1.toInt % (2 ^ 31 : Nat) := c_mask i1 2147483647 31 (by decide) (by decide)
  have h3 : 0 ≤ i1.toInt % (2 ^ 31 : Nat) := Int.emod_nonneg _ (by decide)
  rw [Int32.toInt_mod, h1, Int.tmod_eq_emod_of_nonneg h3]
  exact ⟨Int.emod_nonneg _ (by omega), Int.emod_lt_of_pos _ hk⟩
theorem own_low_rng (i1 : Int32) : 1 ≤ (own_low i1).toInt ∧ (own_low i1).toInt ≤ 65535 := by
  have h := own_rem i1 65535 (by decide)
  have e1 : (65535 : Int32).toInt = 65535 := by decide
  have e2 : (1 : Int32).toInt = 1 := by decide
  unfold own_low
  rw [XT.add32 (by rw [e2]; constructor <;> omega), e2]
  omega
theorem own_gap (i1 : Int32) : ((65536 : Int32) - own_low i1).toInt = 65536 - (own_low i1).toInt := by
  have h := own_low_rng i1
  have e1 : (65536 : Int32).toInt = 65536 := by decide
  rw [XT.sub32 (by rw [e1]; constructor <;> omega), e1]
theorem own_gap_ne (i1 : Int32) : (65536 : Int32) - own_low i1 ≠ 0 := by
  have h := own_low_rng i1
  have g := own_gap i1
  intro q
  have q2 := congrArg Int32.toInt q
  rw [g] at q2
  have : (0 : Int32).toInt = 0 := rfl
  omega
def own_high (i1 i2 : Int32) : Int32 := own_low i1 + (i2 &&& (2147483647 : Int32)) % ((65536 : Int32) - own_low i1)
theorem own_high_rng (i1 i2 : Int32) : (own_low i1).toInt ≤ (own_high i1 i2).toInt ∧ (own_high i1 i2).toInt ≤ 65535 := by
  have h := own_low_rng i1
  have g := own_gap i1
  have k := own_rem i2 (65536 - own_low i1) (by omega)
  unfold own_high
  rw [XT.add32 (by constructor <;> omega)]
  omega
theorem own_low_lo (i1 : Int32) : ¬ own_low i1 < (1 : Int32) := by
  have := own_low_rng i1
  rw [Int32.lt_iff_toInt_lt]; show ¬ (own_low i1).toInt < 1; omega
theorem own_high_hi (i1 i2 : Int32) : ¬ (65535 : Int32) < own_high i1 i2 := by
  have := own_high_rng i1 i2
  have e1 : (65535 : Int32).toInt = 65535 := by decide
  rw [Int32.lt_iff_toInt_lt, e1]; omega
theorem own_high_lo (i1 i2 : Int32) : ¬ own_high i1 i2 < own_low i1 := by
  have := own_high_rng i1 i2
  rw [Int32.lt_iff_toInt_lt]; omega
def own_from (j1 j2 : Int64) : Int64 := f1 j1 j2
def own_to (j1 j2 : Int64) : Int64 := f2 j1 j2
theorem pd5 : parseMethodDescriptor "(IIJJ)Z" = some ⟨[.int, .int, .long, .long], some .boolean⟩ := by decide +kernel
theorem ef0 (m : MethodId) (i1 : Int32) (i2 : Int32) (j1 : Int64) (j2 : Int64) : entryFrame m #[(.int i1), (.int i2), (.long j1), (.long j2)] maxLocals = mkF m 0 #[.val (.int i1), .val (.int i2), .val (.long j1), .second, .val (.long j2), .second, .unset, .unset, .unset, .unset, .unset, .unset, .unset, .unset, .unset, .unset, .unset, .unset, .unset] [] := by first | (simp [entryFrame, mkF, argsToLocals, Value.category, maxLocals]; done) | rfl
def own_ct (i1 : Int32) (i2 : Int32) (j1 : Int64) (j2 : Int64) : Int32 := (if (f1 (own_from j1 j2) ((own_low i1).toInt64)) = ((own_low i1).toInt64) then (if (f2 (own_to j1 j2) ((own_high i1 i2).toInt64)) = ((own_high i1 i2).toInt64) then (1 : Int32) else (0 : Int32)) else (0 : Int32))
def own_fi (i1 : Int32) (i2 : Int32) (j1 : Int64) (j2 : Int64) : Int32 := (if (f6 (own_from j1 j2) (own_low i1) (own_high i1 i2)) = (own_from j1 j2) then (1 : Int32) else (0 : Int32))
def own_ti (i1 : Int32) (i2 : Int32) (j1 : Int64) (j2 : Int64) : Int32 := (if (f6 (own_to j1 j2) (own_low i1) (own_high i1 i2)) = (own_to j1 j2) then (1 : Int32) else (0 : Int32))
def own_both (i1 : Int32) (i2 : Int32) (j1 : Int64) (j2 : Int64) : Int32 := (if (f5 (own_from j1 j2) (own_from j1 j2) (own_low i1) (own_high i1 i2)) = (0 : Int32) then (0 : Int32) else (if (f5 (own_to j1 j2) (own_to j1 j2) (own_low i1) (own_high i1 i2)) = (0 : Int32) then (0 : Int32) else (1 : Int32)))
def f0 (i1 : Int32) (i2 : Int32) (j1 : Int64) (j2 : Int64) : Int32 := (if (f5 (own_from j1 j2) (own_to j1 j2) (own_low i1) (own_high i1 i2)) = (own_ct i1 i2 j1 j2) then (if (f5 (own_from j1 j2) (own_from j1 j2) (own_low i1) (own_high i1 i2)) = (own_fi i1 i2 j1 j2) then (if (f5 (own_to j1 j2) (own_to j1 j2) (own_low i1) (own_high i1 i2)) = (own_ti i1 i2 j1 j2) then (if (f5 (own_from j1 j2) (own_to j1 j2) (own_low i1) (own_high i1 i2)) = (own_both i1 i2 j1 j2) then (1 : Int32) else (0 : Int32)) else (0 : Int32)) else (0 : Int32)) else (0 : Int32))
theorem own_ft (j1 j2 : Int64) : (own_from j1 j2).toInt ≤ (own_to j1 j2).toInt := by
  unfold own_from own_to f1 f2
  have e1 := @Int64.lt_iff_toInt_lt j1 j2
  have e2 := @Int64.lt_iff_toInt_lt j2 j1
  simp only [e1, e2]
  split <;> split <;> omega
theorem own_h (a b : Int64) (l h : Int32) : f5 a b l h = if l.toInt ≤ a.toInt ∧ b.toInt ≤ h.toInt then 1 else 0 := by
  unfold f5
  have e1 := @Int64.lt_iff_toInt_lt a l.toInt64
  have e2 := @Int64.lt_iff_toInt_lt h.toInt64 b
  rw [Int32.toInt_toInt64] at e1 e2
  simp only [e1, e2]
  split
  · rw [if_neg (by omega)]
  · split
    · rw [if_neg (by omega)]
    · rw [if_pos (by omega)]
theorem own_min (a : Int64) (l : Int32) : f1 a l.toInt64 = l.toInt64 ↔ l.toInt ≤ a.toInt := by
  unfold f1
  have e1 := @Int64.lt_iff_toInt_lt l.toInt64 a
  have e2 := @Int64.toInt_inj a l.toInt64
  rw [Int32.toInt_toInt64] at e1 e2
  simp only [e1]
  split
  · simp only [true_iff]; omega
  · rw [← e2]; omega
theorem own_max (a : Int64) (l : Int32) : f2 a l.toInt64 = l.toInt64 ↔ a.toInt ≤ l.toInt := by
  unfold f2
  have e1 := @Int64.lt_iff_toInt_lt a l.toInt64
  have e2 := @Int64.toInt_inj a l.toInt64
  rw [Int32.toInt_toInt64] at e1 e2
  simp only [e1]
  split
  · simp only [true_iff]; omega
  · rw [← e2]; omega
theorem own_cl (a : Int64) (l h : Int32) (q : l.toInt ≤ h.toInt) : f6 a l h = a ↔ l.toInt ≤ a.toInt ∧ a.toInt ≤ h.toInt := by
  unfold f6 f1 f2
  have hl : l.toInt64.toInt = l.toInt := Int32.toInt_toInt64 l
  have hh : h.toInt64.toInt = h.toInt := Int32.toInt_toInt64 h
  by_cases c1 : h.toInt64 < a
  · rw [if_pos c1]
    have c1' := Int64.lt_iff_toInt_lt.mp c1
    split
    · rw [← Int64.toInt_inj]; omega
    · rw [← Int64.toInt_inj]; omega
  · rw [if_neg c1]
    have c1' : ¬ h.toInt64.toInt < a.toInt := fun z => c1 (Int64.lt_iff_toInt_lt.mpr z)
    split
    · rename_i c2
      have c2' := Int64.lt_iff_toInt_lt.mp c2
      rw [← Int64.toInt_inj]; omega
    · rename_i c2
      have c2' : ¬ a.toInt < l.toInt64.toInt := fun z => c2 (Int64.lt_iff_toInt_lt.mpr z)
      simp only [true_iff]; omega
theorem own_law (i1 i2 : Int32) (j1 j2 : Int64) : f0 i1 i2 j1 j2 = 1 := by
  have hf := own_ft j1 j2
  have hh := own_high_rng i1 i2
  unfold f0 own_ct own_fi own_ti own_both
  simp only [own_h, own_min, own_max, own_cl _ _ _ hh.1]
  generalize own_from j1 j2 = a at *
  generalize own_to j1 j2 = b at *
  generalize own_low i1 = l at *
  generalize own_high i1 i2 = h at *
  by_cases c1 : l.toInt ≤ a.toInt <;> by_cases c2 : b.toInt ≤ h.toInt <;> by_cases c3 : a.toInt ≤ h.toInt <;> by_cases c4 : l.toInt ≤ b.toInt <;> simp [c1, c2, c3, c4] <;> omega
set_option maxRecDepth 65536 in
set_option maxHeartbeats 40000000 in
theorem rm0 (l : Launch) (Z : State) (a0 : Array Value) (hw : ∀ d ∈ tables_1, d.before a0 Z = true) (ws : List Jvm.Cond) (i1 : Int32) (i2 : Int32) (j1 : Int64) (j2 : Int64) (h0 : Heap) (n0 : Nat) (Z0 : n0 ≤ h0.size)  :
    own_Met l x code maxLocals ret room_1 ws #[(.int i1), (.int i2), (.long j1), (.long j2)] Z h0 16 128 (fun v h L => v = some (.int (f0 i1 i2 j1 j2)) ∧ Fr n0 L) := by
  refine own_met (plainFor_of_name pn2) ?_
  intro p e s m below meth c s₁ hx hby hml hown hnm hret hlk hZ e0 X0
  have hml : c.maxLocals = 19 := hml
  have N0 := Fr.nil n0
  have K0 := Keep.refl h0 []
  refine own_go (fun _ k => castTop (ef0 m i1 i2 j1 j2) k) ?_
  show own_Fin p.tables e below _ (s₁.setTop (mkF m 0 #[.val (.int i1), .val (.int i2), .val (.long j1), .second, .val (.long j2), .second, .unset, .unset, .unset, .unset, .unset, .unset, .unset, .unset, .unset, .unset, .unset, .unset, .unset] []))
  refine own_go (fun _ k => XT.iconstV X0.here hx rfl (1 : Int32) (hb hby at_0) (by decide) k) ?_
  show own_Fin p.tables e below _ (s₁.setTop (mkF m 1 #[.val (.int i1), .val (.int i2), .val (.long j1), .second, .val (.long j2), .second, .unset, .unset, .unset, .unset, .unset, .unset, .unset, .unset, .unset, .unset, .unset, .unset, .unset] [(.int (1 : Int32))]))
  refine own_go (fun _ k => XS.iloadN X0.here hx rfl (hb hby at_1) rfl k) ?_
  show own_Fin p.tables e below _ (s₁.setTop (mkF m 2 #[.val (.int i1), .val (.int i2), .val (.long j1), .second, .val (.long j2), .second, .unset, .unset, .unset, .unset, .unset, .unset, .unset, .unset, .unset, .unset, .unset, .unset, .unset] [(.int i1), (.int (1 : Int32))]))
  refine own_go (fun _ k => X0.ldcI hx hown (mvT hZ (hw _ (List.mem_of_getElem? (i := 0) rfl))) rfl (hb hby at_2) k) ?_
  show own_Fin p.tables e below _ (s₁.setTop (mkF m 4 #[.val (.int i1), .val (.int i2), .val (.long j1), .second, .val (.long j2), .second, .unset, .unset, .unset, .unset, .unset, .unset, .unset, .unset, .unset, .unset, .unset, .unset, .unset] [(.int (2147483647 : Int32)), (.int i1), (.int (1 : Int32))]))
  refine own_go (fun _ k => XS.iand X0.here hx rfl (hb hby at_4) rfl k) ?_
  show own_Fin p.tables e below _ (s₁.setTop (mkF m 5 #[.val (.int i1), .val (.int i2), .val (.long j1), .second, .val (.long j2), .second, .unset, .unset, .unset, .unset, .unset, .unset, .unset, .unset, .unset, .unset, .unset, .unset, .unset] [(.int (i1 &&& (2147483647 : Int32))), (.int (1 : Int32))]))
  refine own_go (fun _ k => X0.ldcI hx hown (mvT hZ (hw _ (List.mem_of_getElem? (i := 1) rfl))) rfl (hb hby at_5) k) ?_
  show own_Fin p.tables e below _ (s₁.setTop (mkF m 7 #[.val (.int i1), .val (.int i2), .val (.long j1), .second, .val (.long j2), .second, .unset, .unset, .unset, .unset, .unset, .unset, .unset, .unset, .unset, .unset, .unset, .unset, .unset] [(.int (65535 : Int32)), (.int (i1 &&& (2147483647 : Int32))), (.int (1 : Int32))]))
  refine own_go (fun _ k => iremM X0 hx rfl (hb hby at_7) rfl (by decide) k) ?_
  show own_Fin p.tables e below _ (s₁.setTop (mkF m 8 #[.val (.int i1), .val (.int i2), .val (.long j1), .second, .val (.long j2), .second, .unset, .unset, .unset, .unset, .unset, .unset, .unset, .unset, .unset, .unset, .unset, .unset, .unset] [(.int ((i1 &&& (2147483647 : Int32)) % (65535 : Int32))), (.int (1 : Int32))]))
  refine own_go (fun _ k => XS.iadd X0.here hx rfl (hb hby at_8) rfl k) ?_
  show own_Fin p.tables e below _ (s₁.setTop (mkF m 9 #[.val (.int i1), .val (.int i2), .val (.long j1), .second, .val (.long j2), .second, .unset, .unset, .unset, .unset, .unset, .unset, .unset, .unset, .unset, .unset, .unset, .unset, .unset] [(.int ((1 : Int32) + ((i1 &&& (2147483647 : Int32)) % (65535 : Int32))))]))
  refine own_go (fun _ k => XS.istore X0.here hx rfl (hb hby at_9) rfl (l' := #[.val (.int i1), .val (.int i2), .val (.long j1), .second, .val (.long j2), .second, .val (.int (own_low i1)), .unset, .unset, .unset, .unset, .unset, .unset, .unset, .unset, .unset, .unset, .unset, .unset]) rfl k) ?_
  show own_Fin p.tables e below _ (s₁.setTop (mkF m 11 #[.val (.int i1), .val (.int i2), .val (.long j1), .second, .val (.long j2), .second, .val (.int (own_low i1)), .unset, .unset, .unset, .unset, .unset, .unset, .unset, .unset, .unset, .unset, .unset, .unset] []))
  refine own_go (fun _ k => XS.iload X0.here hx rfl (hb hby at_11) rfl k) ?_
  show own_Fin p.tables e below _ (s₁.setTop (mkF m 13 #[.val (.int i1), .val (.int i2), .val (.long j1), .second, .val (.long j2), .second, .val (.int (own_low i1)), .unset, .unset, .unset, .unset, .unset, .unset, .unset, .unset, .unset, .unset, .unset, .unset] [(.int (own_low i1))]))
  refine own_go (fun _ k => XS.iloadN X0.here hx rfl (hb hby at_13) rfl k) ?_
  show own_Fin p.tables e below _ (s₁.setTop (mkF m 14 #[.val (.int i1), .val (.int i2), .val (.long j1), .second, .val (.long j2), .second, .val (.int (own_low i1)), .unset, .unset, .unset, .unset, .unset, .unset, .unset, .unset, .unset, .unset, .unset, .unset] [(.int i2), (.int (own_low i1))]))
  refine own_go (fun _ k => X0.ldcI hx hown (mvT hZ (hw _ (List.mem_of_getElem? (i := 0) rfl))) rfl (hb hby at_14) k) ?_
  show own_Fin p.tables e below _ (s₁.setTop (mkF m 16 #[.val (.int i1), .val (.int i2), .val (.long j1), .second, .val (.long j2), .second, .val (.int (own_low i1)), .unset, .unset, .unset, .unset, .unset, .unset, .unset, .unset, .unset, .unset, .unset, .unset] [(.int (2147483647 : Int32)), (.int i2), (.int (own_low i1))]))
  refine own_go (fun _ k => XS.iand X0.here hx rfl (hb hby at_16) rfl k) ?_
  show own_Fin p.tables e below _ (s₁.setTop (mkF m 17 #[.val (.int i1), .val (.int i2), .val (.long j1), .second, .val (.long j2), .second, .val (.int (own_low i1)), .unset, .unset, .unset, .unset, .unset, .unset, .unset, .unset, .unset, .unset, .unset, .unset] [(.int (i2 &&& (2147483647 : Int32))), (.int (own_low i1))]))
  refine own_go (fun _ k => X0.ldcI hx hown (mvT hZ (hw _ (List.mem_of_getElem? (i := 2) rfl))) rfl (hb hby at_17) k) ?_
  show own_Fin p.tables e below _ (s₁.setTop (mkF m 19 #[.val (.int i1), .val (.int i2), .val (.long j1), .second, .val (.long j2), .second, .val (.int (own_low i1)), .unset, .unset, .unset, .unset, .unset, .unset, .unset, .unset, .unset, .unset, .unset, .unset] [(.int (65536 : Int32)), (.int (i2 &&& (2147483647 : Int32))), (.int (own_low i1))]))
  refine own_go (fun _ k => XS.iload X0.here hx rfl (hb hby at_19) rfl k) ?_
  show own_Fin p.tables e below _ (s₁.setTop (mkF m 21 #[.val (.int i1), .val (.int i2), .val (.long j1), .second, .val (.long j2), .second, .val (.int (own_low i1)), .unset, .unset, .unset, .unset, .unset, .unset, .unset, .unset, .unset, .unset, .unset, .unset] [(.int (own_low i1)), (.int (65536 : Int32)), (.int (i2 &&& (2147483647 : Int32))), (.int (own_low i1))]))
  refine own_go (fun _ k => XS.isub X0.here hx rfl (hb hby at_21) rfl k) ?_
  show own_Fin p.tables e below _ (s₁.setTop (mkF m 22 #[.val (.int i1), .val (.int i2), .val (.long j1), .second, .val (.long j2), .second, .val (.int (own_low i1)), .unset, .unset, .unset, .unset, .unset, .unset, .unset, .unset, .unset, .unset, .unset, .unset] [(.int ((65536 : Int32) - (own_low i1))), (.int (i2 &&& (2147483647 : Int32))), (.int (own_low i1))]))
  refine own_go (fun _ k => iremM X0 hx rfl (hb hby at_22) rfl (own_gap_ne i1) k) ?_
  show own_Fin p.tables e below _ (s₁.setTop (mkF m 23 #[.val (.int i1), .val (.int i2), .val (.long j1), .second, .val (.long j2), .second, .val (.int (own_low i1)), .unset, .unset, .unset, .unset, .unset, .unset, .unset, .unset, .unset, .unset, .unset, .unset] [(.int ((i2 &&& (2147483647 : Int32)) % ((65536 : Int32) - (own_low i1)))), (.int (own_low i1))]))
  refine own_go (fun _ k => XS.iadd X0.here hx rfl (hb hby at_23) rfl k) ?_
  show own_Fin p.tables e below _ (s₁.setTop (mkF m 24 #[.val (.int i1), .val (.int i2), .val (.long j1), .second, .val (.long j2), .second, .val (.int (own_low i1)), .unset, .unset, .unset, .unset, .unset, .unset, .unset, .unset, .unset, .unset, .unset, .unset] [(.int ((own_low i1) + ((i2 &&& (2147483647 : Int32)) % ((65536 : Int32) - (own_low i1)))))]))
  refine own_go (fun _ k => XS.istore X0.here hx rfl (hb hby at_24) rfl (l' := #[.val (.int i1), .val (.int i2), .val (.long j1), .second, .val (.long j2), .second, .val (.int (own_low i1)), .val (.int (own_high i1 i2)), .unset, .unset, .unset, .unset, .unset, .unset, .unset, .unset, .unset, .unset, .unset]) rfl k) ?_
  show own_Fin p.tables e below _ (s₁.setTop (mkF m 26 #[.val (.int i1), .val (.int i2), .val (.long j1), .second, .val (.long j2), .second, .val (.int (own_low i1)), .val (.int (own_high i1 i2)), .unset, .unset, .unset, .unset, .unset, .unset, .unset, .unset, .unset, .unset, .unset] []))
  refine own_go (fun _ k => XT.lloadN X0.here hx rfl (hb hby at_26) rfl k) ?_
  show own_Fin p.tables e below _ (s₁.setTop (mkF m 27 #[.val (.int i1), .val (.int i2), .val (.long j1), .second, .val (.long j2), .second, .val (.int (own_low i1)), .val (.int (own_high i1 i2)), .unset, .unset, .unset, .unset, .unset, .unset, .unset, .unset, .unset, .unset, .unset] [(.long j1)]))
  refine own_go (fun _ k => XT.lload X0.here hx rfl (hb hby at_27) rfl k) ?_
  show own_Fin p.tables e below _ (s₁.setTop (mkF m 29 #[.val (.int i1), .val (.int i2), .val (.long j1), .second, .val (.long j2), .second, .val (.int (own_low i1)), .val (.int (own_high i1 i2)), .unset, .unset, .unset, .unset, .unset, .unset, .unset, .unset, .unset, .unset, .unset] [(.long j2), (.long j1)]))
  obtain ⟨_, T1, L1, X1, ⟨rfl, M1, e1⟩, st1⟩ := own_callS X0 hx hZ hown (hw _ (List.mem_of_getElem? (i := 3) rfl)) (hw _ (List.mem_of_getElem? (i := 4) rfl)) (hw _ (List.mem_of_getElem? (i := 5) rfl)) (hw _ (List.mem_of_getElem? (i := 6) rfl)) (by decide) (W := 0) (rm1 l Z a0 hw [] j1 j2 h0 n0 (Nat.le_trans Z0 K0.1) ) (by decide) (by decide) e0 (g := (mkF m 29 #[.val (.int i1), .val (.int i2), .val (.long j1), .second, .val (.long j2), .second, .val (.int (own_low i1)), .val (.int (own_high i1 i2)), .unset, .unset, .unset, .unset, .unset, .unset, .unset, .unset, .unset, .unset, .unset] [(.long j2), (.long j1)])) rfl (by rw [hml]; rfl) (argsL := [(.long j1), (.long j2)]) (rest := []) rfl (lenOf pd0 rfl) rfl (by show 2 * 0 + _ ≤ _; exact Nat.le_of_eq rfl) (hb hby at_29) (by decide) (by decide)
  have N1 := Fr.app N0 M1
  refine own_go st1 ?_
  show own_Fin p.tables e below _ (T1.setTop (mkF m 32 #[.val (.int i1), .val (.int i2), .val (.long j1), .second, .val (.long j2), .second, .val (.int (own_low i1)), .val (.int (own_high i1 i2)), .unset, .unset, .unset, .unset, .unset, .unset, .unset, .unset, .unset, .unset, .unset] [(.long (f1 j1 j2))]))
  refine own_go (fun _ k => XT.lstore X1.here hx rfl (hb hby at_32) rfl (l' := #[.val (.int i1), .val (.int i2), .val (.long j1), .second, .val (.long j2), .second, .val (.int (own_low i1)), .val (.int (own_high i1 i2)), .val (.long (own_from j1 j2)), .second, .unset, .unset, .unset, .unset, .unset, .unset, .unset, .unset, .unset]) rfl k) ?_
  show own_Fin p.tables e below _ (T1.setTop (mkF m 34 #[.val (.int i1), .val (.int i2), .val (.long j1), .second, .val (.long j2), .second, .val (.int (own_low i1)), .val (.int (own_high i1 i2)), .val (.long (own_from j1 j2)), .second, .unset, .unset, .unset, .unset, .unset, .unset, .unset, .unset, .unset] []))
  refine own_go (fun _ k => XT.lloadN X1.here hx rfl (hb hby at_34) rfl k) ?_
  show own_Fin p.tables e below _ (T1.setTop (mkF m 35 #[.val (.int i1), .val (.int i2), .val (.long j1), .second, .val (.long j2), .second, .val (.int (own_low i1)), .val (.int (own_high i1 i2)), .val (.long (own_from j1 j2)), .second, .unset, .unset, .unset, .unset, .unset, .unset, .unset, .unset, .unset] [(.long j1)]))
  refine own_go (fun _ k => XT.lload X1.here hx rfl (hb hby at_35) rfl k) ?_
  show own_Fin p.tables e below _ (T1.setTop (mkF m 37 #[.val (.int i1), .val (.int i2), .val (.long j1), .second, .val (.long j2), .second, .val (.int (own_low i1)), .val (.int (own_high i1 i2)), .val (.long (own_from j1 j2)), .second, .unset, .unset, .unset, .unset, .unset, .unset, .unset, .unset, .unset] [(.long j2), (.long j1)]))
  obtain ⟨_, T2, L2, X2, ⟨rfl, M2, e2⟩, st2⟩ := own_callS X1 hx hZ hown (hw _ (List.mem_of_getElem? (i := 7) rfl)) (hw _ (List.mem_of_getElem? (i := 8) rfl)) (hw _ (List.mem_of_getElem? (i := 5) rfl)) (hw _ (List.mem_of_getElem? (i := 9) rfl)) (by decide) (W := 0) (rm2 l Z a0 hw [] j1 j2 h0 n0 (Nat.le_trans Z0 K0.1) ) (by decide) (by decide) e1 (g := (mkF m 37 #[.val (.int i1), .val (.int i2), .val (.long j1), .second, .val (.long j2), .second, .val (.int (own_low i1)), .val (.int (own_high i1 i2)), .val (.long (own_from j1 j2)), .second, .unset, .unset, .unset, .unset, .unset, .unset, .unset, .unset, .unset] [(.long j2), (.long j1)])) rfl (by rw [hml]; rfl) (argsL := [(.long j1), (.long j2)]) (rest := []) rfl (lenOf pd0 rfl) rfl (by show 2 * 0 + _ ≤ _; exact Nat.le_of_eq rfl) (hb hby at_37) (by decide) (by decide)
  have N2 := Fr.app N1 M2
  refine own_go st2 ?_
  show own_Fin p.tables e below _ (T2.setTop (mkF m 40 #[.val (.int i1), .val (.int i2), .val (.long j1), .second, .val (.long j2), .second, .val (.int (own_low i1)), .val (.int (own_high i1 i2)), .val (.long (own_from j1 j2)), .second, .unset, .unset, .unset, .unset, .unset, .unset, .unset, .unset, .unset] [(.long (f2 j1 j2))]))
  refine own_go (fun _ k => XT.lstore X2.here hx rfl (hb hby at_40) rfl (l' := #[.val (.int i1), .val (.int i2), .val (.long j1), .second, .val (.long j2), .second, .val (.int (own_low i1)), .val (.int (own_high i1 i2)), .val (.long (own_from j1 j2)), .second, .val (.long (own_to j1 j2)), .second, .unset, .unset, .unset, .unset, .unset, .unset, .unset]) rfl k) ?_
  show own_Fin p.tables e below _ (T2.setTop (mkF m 42 #[.val (.int i1), .val (.int i2), .val (.long j1), .second, .val (.long j2), .second, .val (.int (own_low i1)), .val (.int (own_high i1 i2)), .val (.long (own_from j1 j2)), .second, .val (.long (own_to j1 j2)), .second, .unset, .unset, .unset, .unset, .unset, .unset, .unset] []))
  obtain ⟨T3, h3, X3, e3, E3, A3, D3, -, st3⟩ := newO X2 hx hZ hown (hw _ (List.mem_of_getElem? (i := 10) rfl)) (hw _ (List.mem_of_getElem? (i := 11) rfl)) (hw _ (List.mem_of_getElem? (i := 12) rfl)) e2 (g := (mkF m 42 #[.val (.int i1), .val (.int i2), .val (.long j1), .second, .val (.long j2), .second, .val (.int (own_low i1)), .val (.int (own_high i1 i2)), .val (.long (own_from j1 j2)), .second, .val (.long (own_to j1 j2)), .second, .unset, .unset, .unset, .unset, .unset, .unset, .unset] [])) rfl (hb hby at_42) (by decide) (by decide)
  obtain ⟨a3, g3⟩ : ∃ z, z = h0.size := ⟨_, rfl⟩
  rw [← g3] at A3 D3 st3
  have q3 : h0.size ≤ a3 := Nat.le_trans K0.1 (Nat.le_of_eq g3.symm)
  have z3 : n0 ≤ a3 := Nat.le_trans Z0 q3
  have K3 := K0.ext E3
  have Fa3_low : Fld Z h3 a3 "com/example/grantline/grantline/eval/EphemeralPorts" "low" "I" (.int (0 : Int32)) := D3 (Or.inr (hw _ (List.mem_of_getElem? (i := 26) rfl))) (ty := .int) (by decide)
  have Fa3_high : Fld Z h3 a3 "com/example/grantline/grantline/eval/EphemeralPorts" "high" "I" (.int (0 : Int32)) := D3 (Or.inr (hw _ (List.mem_of_getElem? (i := 28) rfl))) (ty := .int) (by decide)
  refine own_go st3 ?_
  show own_Fin p.tables e below _ (T3.setTop (mkF m 45 #[.val (.int i1), .val (.int i2), .val (.long j1), .second, .val (.long j2), .second, .val (.int (own_low i1)), .val (.int (own_high i1 i2)), .val (.long (own_from j1 j2)), .second, .val (.long (own_to j1 j2)), .second, .unset, .unset, .unset, .unset, .unset, .unset, .unset] [(.ref a3)]))
  refine own_go (fun _ k => XS.dup X3.here hx rfl (hb hby at_45) rfl rfl k) ?_
  show own_Fin p.tables e below _ (T3.setTop (mkF m 46 #[.val (.int i1), .val (.int i2), .val (.long j1), .second, .val (.long j2), .second, .val (.int (own_low i1)), .val (.int (own_high i1 i2)), .val (.long (own_from j1 j2)), .second, .val (.long (own_to j1 j2)), .second, .unset, .unset, .unset, .unset, .unset, .unset, .unset] [(.ref a3), (.ref a3)]))
  refine own_go (fun _ k => XS.iload X3.here hx rfl (hb hby at_46) rfl k) ?_
  show own_Fin p.tables e below _ (T3.setTop (mkF m 48 #[.val (.int i1), .val (.int i2), .val (.long j1), .second, .val (.long j2), .second, .val (.int (own_low i1)), .val (.int (own_high i1 i2)), .val (.long (own_from j1 j2)), .second, .val (.long (own_to j1 j2)), .second, .unset, .unset, .unset, .unset, .unset, .unset, .unset] [(.int (own_low i1)), (.ref a3), (.ref a3)]))
  refine own_go (fun _ k => XS.iload X3.here hx rfl (hb hby at_48) rfl k) ?_
  show own_Fin p.tables e below _ (T3.setTop (mkF m 50 #[.val (.int i1), .val (.int i2), .val (.long j1), .second, .val (.long j2), .second, .val (.int (own_low i1)), .val (.int (own_high i1 i2)), .val (.long (own_from j1 j2)), .second, .val (.long (own_to j1 j2)), .second, .unset, .unset, .unset, .unset, .unset, .unset, .unset] [(.int (own_high i1 i2)), (.int (own_low i1)), (.ref a3), (.ref a3)]))
  obtain ⟨_, T4, L4, X4, ⟨rfl, M4, KK4, -, G4_low, G4_high⟩, st4⟩ := own_callC X3 hx hZ hown rfl (hw _ (List.mem_of_getElem? (i := 13) rfl)) (hw _ (List.mem_of_getElem? (i := 14) rfl)) (hw _ (List.mem_of_getElem? (i := 12) rfl)) (hw _ (List.mem_of_getElem? (i := 15) rfl)) (by decide) (W := 1) (rm4 l Z a0 hw [] a3 (own_low i1) (own_high i1 i2) (.int (0 : Int32)) (.int (0 : Int32)) h3 n0 (Nat.le_trans Z0 K3.1) A3 Fa3_low Fa3_high z3 (own_low_lo i1) (own_high_hi i1 i2) (own_high_lo i1 i2)) (by decide) (by decide) e3 (g := (mkF m 50 #[.val (.int i1), .val (.int i2), .val (.long j1), .second, .val (.long j2), .second, .val (.int (own_low i1)), .val (.int (own_high i1 i2)), .val (.long (own_from j1 j2)), .second, .val (.long (own_to j1 j2)), .second, .unset, .unset, .unset, .unset, .unset, .unset, .unset] [(.int (own_high i1 i2)), (.int (own_low i1)), (.ref a3), (.ref a3)])) rfl (by rw [hml]; rfl) (argsL := [(.int (own_low i1)), (.int (own_high i1 i2))]) (rest := [(.ref a3)]) rfl (lenOf pd2 rfl) rfl (by show 2 * 0 + _ ≤ _; exact Nat.le_of_eq rfl) (hb hby at_50) (by decide) (by decide)
  have N4 := Fr.app N2 M4
  have Ea3_4 := A3.keep KK4
  have K4 := K3.trans KK4 (allS (Or.inr q3) all0)
  refine own_go st4 ?_
  show own_Fin p.tables e below _ (T4.setTop (mkF m 53 #[.val (.int i1), .val (.int i2), .val (.long j1), .second, .val (.long j2), .second, .val (.int (own_low i1)), .val (.int (own_high i1 i2)), .val (.long (own_from j1 j2)), .second, .val (.long (own_to j1 j2)), .second, .unset, .unset, .unset, .unset, .unset, .unset, .unset] [(.ref a3)]))
  refine own_go (fun _ k => XS.astore X4.here hx rfl (hb hby at_53) rfl rfl (l' := #[.val (.int i1), .val (.int i2), .val (.long j1), .second, .val (.long j2), .second, .val (.int (own_low i1)), .val (.int (own_high i1 i2)), .val (.long (own_from j1 j2)), .second, .val (.long (own_to j1 j2)), .second, .val (.ref a3), .unset, .unset, .unset, .unset, .unset, .unset]) rfl k) ?_
  show own_Fin p.tables e below _ (T4.setTop (mkF m 55 #[.val (.int i1), .val (.int i2), .val (.long j1), .second, .val (.long j2), .second, .val (.int (own_low i1)), .val (.int (own_high i1 i2)), .val (.long (own_from j1 j2)), .second, .val (.long (own_to j1 j2)), .second, .val (.ref a3), .unset, .unset, .unset, .unset, .unset, .unset] []))
  refine own_go (fun _ k => XS.aload X4.here hx rfl (hb hby at_55) rfl rfl k) ?_
  show own_Fin p.tables e below _ (T4.setTop (mkF m 57 #[.val (.int i1), .val (.int i2), .val (.long j1), .second, .val (.long j2), .second, .val (.int (own_low i1)), .val (.int (own_high i1 i2)), .val (.long (own_from j1 j2)), .second, .val (.long (own_to j1 j2)), .second, .val (.ref a3), .unset, .unset, .unset, .unset, .unset, .unset] [(.ref a3)]))
  refine own_go (fun _ k => XT.lload X4.here hx rfl (hb hby at_57) rfl k) ?_
  show own_Fin p.tables e below _ (T4.setTop (mkF m 59 #[.val (.int i1), .val (.int i2), .val (.long j1), .second, .val (.long j2), .second, .val (.int (own_low i1)), .val (.int (own_high i1 i2)), .val (.long (own_from j1 j2)), .second, .val (.long (own_to j1 j2)), .second, .val (.ref a3), .unset, .unset, .unset, .unset, .unset, .unset] [(.long (own_from j1 j2)), (.ref a3)]))
  refine own_go (fun _ k => XT.lload X4.here hx rfl (hb hby at_59) rfl k) ?_
  show own_Fin p.tables e below _ (T4.setTop (mkF m 61 #[.val (.int i1), .val (.int i2), .val (.long j1), .second, .val (.long j2), .second, .val (.int (own_low i1)), .val (.int (own_high i1 i2)), .val (.long (own_from j1 j2)), .second, .val (.long (own_to j1 j2)), .second, .val (.ref a3), .unset, .unset, .unset, .unset, .unset, .unset] [(.long (own_to j1 j2)), (.long (own_from j1 j2)), (.ref a3)]))
  obtain ⟨_, T5, L5, X5, ⟨rfl, M5, e5⟩, st5⟩ := own_callV X4 hx hZ hown (hw _ (List.mem_of_getElem? (i := 29) rfl)) (hw _ (List.mem_of_getElem? (i := 30) rfl)) (hw _ (List.mem_of_getElem? (i := 32) rfl)) (hw _ (List.mem_of_getElem? (i := 31) rfl)) (hw _ (List.mem_of_getElem? (i := 12) rfl)) (hw _ (List.mem_of_getElem? (i := 33) rfl)) (by decide) (W := 0) (rm5 l Z a0 hw [] a3 (own_from j1 j2) (own_to j1 j2) T4.heap n0 (Nat.le_trans Z0 K4.1) (own_low i1) (own_high i1 i2) G4_low G4_high) (by decide) (by decide) rfl Ea3_4 (g := (mkF m 61 #[.val (.int i1), .val (.int i2), .val (.long j1), .second, .val (.long j2), .second, .val (.int (own_low i1)), .val (.int (own_high i1 i2)), .val (.long (own_from j1 j2)), .second, .val (.long (own_to j1 j2)), .second, .val (.ref a3), .unset, .unset, .unset, .unset, .unset, .unset] [(.long (own_to j1 j2)), (.long (own_from j1 j2)), (.ref a3)])) rfl (by rw [hml]; rfl) (argsL := [(.long (own_from j1 j2)), (.long (own_to j1 j2))]) (rest := []) rfl (lenOf pd3 rfl) rfl (by show 2 * 0 + _ ≤ _; exact Nat.le_of_eq rfl) (hb hby at_61) (by decide) (by decide)
  have N5 := Fr.app N4 M5
  refine own_go st5 ?_
  show own_Fin p.tables e below _ (T5.setTop (mkF m 64 #[.val (.int i1), .val (.int i2), .val (.long j1), .second, .val (.long j2), .second, .val (.int (own_low i1)), .val (.int (own_high i1 i2)), .val (.long (own_from j1 j2)), .second, .val (.long (own_to j1 j2)), .second, .val (.ref a3), .unset, .unset, .unset, .unset, .unset, .unset] [(.int (f5 (own_from j1 j2) (own_to j1 j2) (own_low i1) (own_high i1 i2)))]))
  refine own_go (fun _ k => XS.istore X5.here hx rfl (hb hby at_64) rfl (l' := #[.val (.int i1), .val (.int i2), .val (.long j1), .second, .val (.long j2), .second, .val (.int (own_low i1)), .val (.int (own_high i1 i2)), .val (.long (own_from j1 j2)), .second, .val (.long (own_to j1 j2)), .second, .val (.ref a3), .val (.int (f5 (own_from j1 j2) (own_to j1 j2) (own_low i1) (own_high i1 i2))), .unset, .unset, .unset, .unset, .unset]) rfl k) ?_
  show own_Fin p.tables e below _ (T5.setTop (mkF m 66 #[.val (.int i1), .val (.int i2), .val (.long j1), .second, .val (.long j2), .second, .val (.int (own_low i1)), .val (.int (own_high i1 i2)), .val (.long (own_from j1 j2)), .second, .val (.long (own_to j1 j2)), .second, .val (.ref a3), .val (.int (f5 (own_from j1 j2) (own_to j1 j2) (own_low i1) (own_high i1 i2))), .unset, .unset, .unset, .unset, .unset] []))
  refine own_go (fun _ k => XS.aload X5.here hx rfl (hb hby at_66) rfl rfl k) ?_
  show own_Fin p.tables e below _ (T5.setTop (mkF m 68 #[.val (.int i1), .val (.int i2), .val (.long j1), .second, .val (.long j2), .second, .val (.int (own_low i1)), .val (.int (own_high i1 i2)), .val (.long (own_from j1 j2)), .second, .val (.long (own_to j1 j2)), .second, .val (.ref a3), .val (.int (f5 (own_from j1 j2) (own_to j1 j2) (own_low i1) (own_high i1 i2))), .unset, .unset, .unset, .unset, .unset] [(.ref a3)]))
  refine own_go (fun _ k => XT.lload X5.here hx rfl (hb hby at_68) rfl k) ?_
  show own_Fin p.tables e below _ (T5.setTop (mkF m 70 #[.val (.int i1), .val (.int i2), .val (.long j1), .second, .val (.long j2), .second, .val (.int (own_low i1)), .val (.int (own_high i1 i2)), .val (.long (own_from j1 j2)), .second, .val (.long (own_to j1 j2)), .second, .val (.ref a3), .val (.int (f5 (own_from j1 j2) (own_to j1 j2) (own_low i1) (own_high i1 i2))), .unset, .unset, .unset, .unset, .unset] [(.long (own_from j1 j2)), (.ref a3)]))
  refine own_go (fun _ k => XT.lload X5.here hx rfl (hb hby at_70) rfl k) ?_
  show own_Fin p.tables e below _ (T5.setTop (mkF m 72 #[.val (.int i1), .val (.int i2), .val (.long j1), .second, .val (.long j2), .second, .val (.int (own_low i1)), .val (.int (own_high i1 i2)), .val (.long (own_from j1 j2)), .second, .val (.long (own_to j1 j2)), .second, .val (.ref a3), .val (.int (f5 (own_from j1 j2) (own_to j1 j2) (own_low i1) (own_high i1 i2))), .unset, .unset, .unset, .unset, .unset] [(.long (own_from j1 j2)), (.long (own_from j1 j2)), (.ref a3)]))
  obtain ⟨_, T6, L6, X6, ⟨rfl, M6, e6⟩, st6⟩ := own_callV X5 hx hZ hown (hw _ (List.mem_of_getElem? (i := 29) rfl)) (hw _ (List.mem_of_getElem? (i := 30) rfl)) (hw _ (List.mem_of_getElem? (i := 32) rfl)) (hw _ (List.mem_of_getElem? (i := 31) rfl)) (hw _ (List.mem_of_getElem? (i := 12) rfl)) (hw _ (List.mem_of_getElem? (i := 33) rfl)) (by decide) (W := 0) (rm5 l Z a0 hw [] a3 (own_from j1 j2) (own_from j1 j2) T4.heap n0 (Nat.le_trans Z0 K4.1) (own_low i1) (own_high i1 i2) G4_low G4_high) (by decide) (by decide) e5 Ea3_4 (g := (mkF m 72 #[.val (.int i1), .val (.int i2), .val (.long j1), .second, .val (.long j2), .second, .val (.int (own_low i1)), .val (.int (own_high i1 i2)), .val (.long (own_from j1 j2)), .second, .val (.long (own_to j1 j2)), .second, .val (.ref a3), .val (.int (f5 (own_from j1 j2) (own_to j1 j2) (own_low i1) (own_high i1 i2))), .unset, .unset, .unset, .unset, .unset] [(.long (own_from j1 j2)), (.long (own_from j1 j2)), (.ref a3)])) rfl (by rw [hml]; rfl) (argsL := [(.long (own_from j1 j2)), (.long (own_from j1 j2))]) (rest := []) rfl (lenOf pd3 rfl) rfl (by show 2 * 0 + _ ≤ _; exact Nat.le_of_eq rfl) (hb hby at_72) (by decide) (by decide)
  have N6 := Fr.app N5 M6
  refine own_go st6 ?_
  show own_Fin p.tables e below _ (T6.setTop (mkF m 75 #[.val (.int i1), .val (.int i2), .val (.long j1), .second, .val (.long j2), .second, .val (.int (own_low i1)), .val (.int (own_high i1 i2)), .val (.long (own_from j1 j2)), .second, .val (.long (own_to j1 j2)), .second, .val (.ref a3), .val (.int (f5 (own_from j1 j2) (own_to j1 j2) (own_low i1) (own_high i1 i2))), .unset, .unset, .unset, .unset, .unset] [(.int (f5 (own_from j1 j2) (own_from j1 j2) (own_low i1) (own_high i1 i2)))]))
  refine own_go (fun _ k => XS.istore X6.here hx rfl (hb hby at_75) rfl (l' := #[.val (.int i1), .val (.int i2), .val (.long j1), .second, .val (.long j2), .second, .val (.int (own_low i1)), .val (.int (own_high i1 i2)), .val (.long (own_from j1 j2)), .second, .val (.long (own_to j1 j2)), .second, .val (.ref a3), .val (.int (f5 (own_from j1 j2) (own_to j1 j2) (own_low i1) (own_high i1 i2))), .val (.int (f5 (own_from j1 j2) (own_from j1 j2) (own_low i1) (own_high i1 i2))), .unset, .unset, .unset, .unset]) rfl k) ?_
  show own_Fin p.tables e below _ (T6.setTop (mkF m 77 #[.val (.int i1), .val (.int i2), .val (.long j1), .second, .val (.long j2), .second, .val (.int (own_low i1)), .val (.int (own_high i1 i2)), .val (.long (own_from j1 j2)), .second, .val (.long (own_to j1 j2)), .second, .val (.ref a3), .val (.int (f5 (own_from j1 j2) (own_to j1 j2) (own_low i1) (own_high i1 i2))), .val (.int (f5 (own_from j1 j2) (own_from j1 j2) (own_low i1) (own_high i1 i2))), .unset, .unset, .unset, .unset] []))
  refine own_go (fun _ k => XS.aload X6.here hx rfl (hb hby at_77) rfl rfl k) ?_
  show own_Fin p.tables e below _ (T6.setTop (mkF m 79 #[.val (.int i1), .val (.int i2), .val (.long j1), .second, .val (.long j2), .second, .val (.int (own_low i1)), .val (.int (own_high i1 i2)), .val (.long (own_from j1 j2)), .second, .val (.long (own_to j1 j2)), .second, .val (.ref a3), .val (.int (f5 (own_from j1 j2) (own_to j1 j2) (own_low i1) (own_high i1 i2))), .val (.int (f5 (own_from j1 j2) (own_from j1 j2) (own_low i1) (own_high i1 i2))), .unset, .unset, .unset, .unset] [(.ref a3)]))
  refine own_go (fun _ k => XT.lload X6.here hx rfl (hb hby at_79) rfl k) ?_
  show own_Fin p.tables e below _ (T6.setTop (mkF m 81 #[.val (.int i1), .val (.int i2), .val (.long j1), .second, .val (.long j2), .second, .val (.int (own_low i1)), .val (.int (own_high i1 i2)), .val (.long (own_from j1 j2)), .second, .val (.long (own_to j1 j2)), .second, .val (.ref a3), .val (.int (f5 (own_from j1 j2) (own_to j1 j2) (own_low i1) (own_high i1 i2))), .val (.int (f5 (own_from j1 j2) (own_from j1 j2) (own_low i1) (own_high i1 i2))), .unset, .unset, .unset, .unset] [(.long (own_to j1 j2)), (.ref a3)]))
  refine own_go (fun _ k => XT.lload X6.here hx rfl (hb hby at_81) rfl k) ?_
  show own_Fin p.tables e below _ (T6.setTop (mkF m 83 #[.val (.int i1), .val (.int i2), .val (.long j1), .second, .val (.long j2), .second, .val (.int (own_low i1)), .val (.int (own_high i1 i2)), .val (.long (own_from j1 j2)), .second, .val (.long (own_to j1 j2)), .second, .val (.ref a3), .val (.int (f5 (own_from j1 j2) (own_to j1 j2) (own_low i1) (own_high i1 i2))), .val (.int (f5 (own_from j1 j2) (own_from j1 j2) (own_low i1) (own_high i1 i2))), .unset, .unset, .unset, .unset] [(.long (own_to j1 j2)), (.long (own_to j1 j2)), (.ref a3)]))
  obtain ⟨_, T7, L7, X7, ⟨rfl, M7, e7⟩, st7⟩ := own_callV X6 hx hZ hown (hw _ (List.mem_of_getElem? (i := 29) rfl)) (hw _ (List.mem_of_getElem? (i := 30) rfl)) (hw _ (List.mem_of_getElem? (i := 32) rfl)) (hw _ (List.mem_of_getElem? (i := 31) rfl)) (hw _ (List.mem_of_getElem? (i := 12) rfl)) (hw _ (List.mem_of_getElem? (i := 33) rfl)) (by decide) (W := 0) (rm5 l Z a0 hw [] a3 (own_to j1 j2) (own_to j1 j2) T4.heap n0 (Nat.le_trans Z0 K4.1) (own_low i1) (own_high i1 i2) G4_low G4_high) (by decide) (by decide) e6 Ea3_4 (g := (mkF m 83 #[.val (.int i1), .val (.int i2), .val (.long j1), .second, .val (.long j2), .second, .val (.int (own_low i1)), .val (.int (own_high i1 i2)), .val (.long (own_from j1 j2)), .second, .val (.long (own_to j1 j2)), .second, .val (.ref a3), .val (.int (f5 (own_from j1 j2) (own_to j1 j2) (own_low i1) (own_high i1 i2))), .val (.int (f5 (own_from j1 j2) (own_from j1 j2) (own_low i1) (own_high i1 i2))), .unset, .unset, .unset, .unset] [(.long (own_to j1 j2)), (.long (own_to j1 j2)), (.ref a3)])) rfl (by rw [hml]; rfl) (argsL := [(.long (own_to j1 j2)), (.long (own_to j1 j2))]) (rest := []) rfl (lenOf pd3 rfl) rfl (by show 2 * 0 + _ ≤ _; exact Nat.le_of_eq rfl) (hb hby at_83) (by decide) (by decide)
  have N7 := Fr.app N6 M7
  refine own_go st7 ?_
  show own_Fin p.tables e below _ (T7.setTop (mkF m 86 #[.val (.int i1), .val (.int i2), .val (.long j1), .second, .val (.long j2), .second, .val (.int (own_low i1)), .val (.int (own_high i1 i2)), .val (.long (own_from j1 j2)), .second, .val (.long (own_to j1 j2)), .second, .val (.ref a3), .val (.int (f5 (own_from j1 j2) (own_to j1 j2) (own_low i1) (own_high i1 i2))), .val (.int (f5 (own_from j1 j2) (own_from j1 j2) (own_low i1) (own_high i1 i2))), .unset, .unset, .unset, .unset] [(.int (f5 (own_to j1 j2) (own_to j1 j2) (own_low i1) (own_high i1 i2)))]))
  refine own_go (fun _ k => XS.istore X7.here hx rfl (hb hby at_86) rfl (l' := #[.val (.int i1), .val (.int i2), .val (.long j1), .second, .val (.long j2), .second, .val (.int (own_low i1)), .val (.int (own_high i1 i2)), .val (.long (own_from j1 j2)), .second, .val (.long (own_to j1 j2)), .second, .val (.ref a3), .val (.int (f5 (own_from j1 j2) (own_to j1 j2) (own_low i1) (own_high i1 i2))), .val (.int (f5 (own_from j1 j2) (own_from j1 j2) (own_low i1) (own_high i1 i2))), .val (.int (f5 (own_to j1 j2) (own_to j1 j2) (own_low i1) (own_high i1 i2))), .unset, .unset, .unset]) rfl k) ?_
  show own_Fin p.tables e below _ (T7.setTop (mkF m 88 #[.val (.int i1), .val (.int i2), .val (.long j1), .second, .val (.long j2), .second, .val (.int (own_low i1)), .val (.int (own_high i1 i2)), .val (.long (own_from j1 j2)), .second, .val (.long (own_to j1 j2)), .second, .val (.ref a3), .val (.int (f5 (own_from j1 j2) (own_to j1 j2) (own_low i1) (own_high i1 i2))), .val (.int (f5 (own_from j1 j2) (own_from j1 j2) (own_low i1) (own_high i1 i2))), .val (.int (f5 (own_to j1 j2) (own_to j1 j2) (own_low i1) (own_high i1 i2))), .unset, .unset, .unset] []))
  obtain ⟨_, ⟨T8, L8, X8, N8, e8, rfl⟩, st8⟩ : own_Go p.tables e below (fun t => ∃ T' L', Stand p l e room_1 s m #[(.int i1), (.int i2), (.long j1), (.long j2)] below meth c T' L' 1 2 ∧ Fr n0 L' ∧ T'.heap = T4.heap ∧ t = T'.setTop (mkF m 123 #[.val (.int i1), .val (.int i2), .val (.long j1), .second, .val (.long j2), .second, .val (.int (own_low i1)), .val (.int (own_high i1 i2)), .val (.long (own_from j1 j2)), .second, .val (.long (own_to j1 j2)), .second, .val (.ref a3), .val (.int (f5 (own_from j1 j2) (own_to j1 j2) (own_low i1) (own_high i1 i2))), .val (.int (f5 (own_from j1 j2) (own_from j1 j2) (own_low i1) (own_high i1 i2))), .val (.int (f5 (own_to j1 j2) (own_to j1 j2) (own_low i1) (own_high i1 i2))), .unset, .unset, .unset] [(.int (own_ct i1 i2 j1 j2))])) (T7.setTop (mkF m 88 #[.val (.int i1), .val (.int i2), .val (.long j1), .second, .val (.long j2), .second, .val (.int (own_low i1)), .val (.int (own_high i1 i2)), .val (.long (own_from j1 j2)), .second, .val (.long (own_to j1 j2)), .second, .val (.ref a3), .val (.int (f5 (own_from j1 j2) (own_to j1 j2) (own_low i1) (own_high i1 i2))), .val (.int (f5 (own_from j1 j2) (own_from j1 j2) (own_low i1) (own_high i1 i2))), .val (.int (f5 (own_to j1 j2) (own_to j1 j2) (own_low i1) (own_high i1 i2))), .unset, .unset, .unset] [])) := by
    refine own_on (fun _ k => XT.lload X7.here hx rfl (hb hby at_88) rfl k) ?_
    show own_Go p.tables e below _ (T7.setTop (mkF m 90 #[.val (.int i1), .val (.int i2), .val (.long j1), .second, .val (.long j2), .second, .val (.int (own_low i1)), .val (.int (own_high i1 i2)), .val (.long (own_from j1 j2)), .second, .val (.long (own_to j1 j2)), .second, .val (.ref a3), .val (.int (f5 (own_from j1 j2) (own_to j1 j2) (own_low i1) (own_high i1 i2))), .val (.int (f5 (own_from j1 j2) (own_from j1 j2) (own_low i1) (own_high i1 i2))), .val (.int (f5 (own_to j1 j2) (own_to j1 j2) (own_low i1) (own_high i1 i2))), .unset, .unset, .unset] [(.long (own_from j1 j2))]))
    refine own_on (fun _ k => XS.iload X7.here hx rfl (hb hby at_90) rfl k) ?_
    show own_Go p.tables e below _ (T7.setTop (mkF m 92 #[.val (.int i1), .val (.int i2), .val (.long j1), .second, .val (.long j2), .second, .val (.int (own_low i1)), .val (.int (own_high i1 i2)), .val (.long (own_from j1 j2)), .second, .val (.long (own_to j1 j2)), .second, .val (.ref a3), .val (.int (f5 (own_from j1 j2) (own_to j1 j2) (own_low i1) (own_high i1 i2))), .val (.int (f5 (own_from j1 j2) (own_from j1 j2) (own_low i1) (own_high i1 i2))), .val (.int (f5 (own_to j1 j2) (own_to j1 j2) (own_low i1) (own_high i1 i2))), .unset, .unset, .unset] [(.int (own_low i1)), (.long (own_from j1 j2))]))
    refine own_on (fun _ k => XT.i2l X7.here hx rfl (hb hby at_92) rfl k) ?_
    show own_Go p.tables e below _ (T7.setTop (mkF m 93 #[.val (.int i1), .val (.int i2), .val (.long j1), .second, .val (.long j2), .second, .val (.int (own_low i1)), .val (.int (own_high i1 i2)), .val (.long (own_from j1 j2)), .second, .val (.long (own_to j1 j2)), .second, .val (.ref a3), .val (.int (f5 (own_from j1 j2) (own_to j1 j2) (own_low i1) (own_high i1 i2))), .val (.int (f5 (own_from j1 j2) (own_from j1 j2) (own_low i1) (own_high i1 i2))), .val (.int (f5 (own_to j1 j2) (own_to j1 j2) (own_low i1) (own_high i1 i2))), .unset, .unset, .unset] [(.long ((own_low i1).toInt64)), (.long (own_from j1 j2))]))
    obtain ⟨_, T9, L9, X9, ⟨rfl, M9, e9⟩, st9⟩ := own_callS X7 hx hZ hown (hw _ (List.mem_of_getElem? (i := 3) rfl)) (hw _ (List.mem_of_getElem? (i := 4) rfl)) (hw _ (List.mem_of_getElem? (i := 5) rfl)) (hw _ (List.mem_of_getElem? (i := 6) rfl)) (by decide) (W := 0) (rm1 l Z a0 hw [] (own_from j1 j2) ((own_low i1).toInt64) T4.heap n0 (Nat.le_trans Z0 K4.1) ) (by decide) (by decide) e7 (g := (mkF m 93 #[.val (.int i1), .val (.int i2), .val (.long j1), .second, .val (.long j2), .second, .val (.int (own_low i1)), .val (.int (own_high i1 i2)), .val (.long (own_from j1 j2)), .second, .val (.long (own_to j1 j2)), .second, .val (.ref a3), .val (.int (f5 (own_from j1 j2) (own_to j1 j2) (own_low i1) (own_high i1 i2))), .val (.int (f5 (own_from j1 j2) (own_from j1 j2) (own_low i1) (own_high i1 i2))), .val (.int (f5 (own_to j1 j2) (own_to j1 j2) (own_low i1) (own_high i1 i2))), .unset, .unset, .unset] [(.long ((own_low i1).toInt64)), (.long (own_from j1 j2))])) rfl (by rw [hml]; rfl) (argsL := [(.long (own_from j1 j2)), (.long ((own_low i1).toInt64))]) (rest := []) rfl (lenOf pd0 rfl) rfl (by show 2 * 0 + _ ≤ _; exact Nat.le_of_eq rfl) (hb hby at_93) (by decide) (by decide)
    have N9 := Fr.app N7 M9
    refine own_on st9 ?_
    show own_Go p.tables e below _ (T9.setTop (mkF m 96 #[.val (.int i1), .val (.int i2), .val (.long j1), .second, .val (.long j2), .second, .val (.int (own_low i1)), .val (.int (own_high i1 i2)), .val (.long (own_from j1 j2)), .second, .val (.long (own_to j1 j2)), .second, .val (.ref a3), .val (.int (f5 (own_from j1 j2) (own_to j1 j2) (own_low i1) (own_high i1 i2))), .val (.int (f5 (own_from j1 j2) (own_from j1 j2) (own_low i1) (own_high i1 i2))), .val (.int (f5 (own_to j1 j2) (own_to j1 j2) (own_low i1) (own_high i1 i2))), .unset, .unset, .unset] [(.long (f1 (own_from j1 j2) ((own_low i1).toInt64)))]))
    refine own_on (fun _ k => XS.iload X9.here hx rfl (hb hby at_96) rfl k) ?_
    show own_Go p.tables e below _ (T9.setTop (mkF m 98 #[.val (.int i1), .val (.int i2), .val (.long j1), .second, .val (.long j2), .second, .val (.int (own_low i1)), .val (.int (own_high i1 i2)), .val (.long (own_from j1 j2)), .second, .val (.long (own_to j1 j2)), .second, .val (.ref a3), .val (.int (f5 (own_from j1 j2) (own_to j1 j2) (own_low i1) (own_high i1 i2))), .val (.int (f5 (own_from j1 j2) (own_from j1 j2) (own_low i1) (own_high i1 i2))), .val (.int (f5 (own_to j1 j2) (own_to j1 j2) (own_low i1) (own_high i1 i2))), .unset, .unset, .unset] [(.int (own_low i1)), (.long (f1 (own_from j1 j2) ((own_low i1).toInt64)))]))
    refine own_on (fun _ k => XT.i2l X9.here hx rfl (hb hby at_98) rfl k) ?_
    show own_Go p.tables e below _ (T9.setTop (mkF m 99 #[.val (.int i1), .val (.int i2), .val (.long j1), .second, .val (.long j2), .second, .val (.int (own_low i1)), .val (.int (own_high i1 i2)), .val (.long (own_from j1 j2)), .second, .val (.long (own_to j1 j2)), .second, .val (.ref a3), .val (.int (f5 (own_from j1 j2) (own_to j1 j2) (own_low i1) (own_high i1 i2))), .val (.int (f5 (own_from j1 j2) (own_from j1 j2) (own_low i1) (own_high i1 i2))), .val (.int (f5 (own_to j1 j2) (own_to j1 j2) (own_low i1) (own_high i1 i2))), .unset, .unset, .unset] [(.long ((own_low i1).toInt64)), (.long (f1 (own_from j1 j2) ((own_low i1).toInt64)))]))
    refine own_on (fun _ k => XT.lcmp X9.here hx rfl (hb hby at_99) rfl k) ?_
    show own_Go p.tables e below _ (T9.setTop (mkF m 100 #[.val (.int i1), .val (.int i2), .val (.long j1), .second, .val (.long j2), .second, .val (.int (own_low i1)), .val (.int (own_high i1 i2)), .val (.long (own_from j1 j2)), .second, .val (.long (own_to j1 j2)), .second, .val (.ref a3), .val (.int (f5 (own_from j1 j2) (own_to j1 j2) (own_low i1) (own_high i1 i2))), .val (.int (f5 (own_from j1 j2) (own_from j1 j2) (own_low i1) (own_high i1 i2))), .val (.int (f5 (own_to j1 j2) (own_to j1 j2) (own_low i1) (own_high i1 i2))), .unset, .unset, .unset] [(.int (XT.cmpL (f1 (own_from j1 j2) ((own_low i1).toInt64)) ((own_low i1).toInt64)))]))
    by_cases hc10 : (f1 (own_from j1 j2) ((own_low i1).toInt64)) = ((own_low i1).toInt64)
    · refine own_on (fun _ k => XS.ifNo X9.here hx rfl (hb hby at_100) rfl (XT.ll_ne_f hc10) k) ?_
      show own_Go p.tables e below _ (T9.setTop (mkF m 103 #[.val (.int i1), .val (.int i2), .val (.long j1), .second, .val (.long j2), .second, .val (.int (own_low i1)), .val (.int (own_high i1 i2)), .val (.long (own_from j1 j2)), .second, .val (.long (own_to j1 j2)), .second, .val (.ref a3), .val (.int (f5 (own_from j1 j2) (own_to j1 j2) (own_low i1) (own_high i1 i2))), .val (.int (f5 (own_from j1 j2) (own_from j1 j2) (own_low i1) (own_high i1 i2))), .val (.int (f5 (own_to j1 j2) (own_to j1 j2) (own_low i1) (own_high i1 i2))), .unset, .unset, .unset] []))
      refine own_on (fun _ k => XT.lload X9.here hx rfl (hb hby at_103) rfl k) ?_
      show own_Go p.tables e below _ (T9.setTop (mkF m 105 #[.val (.int i1), .val (.int i2), .val (.long j1), .second, .val (.long j2), .second, .val (.int (own_low i1)), .val (.int (own_high i1 i2)), .val (.long (own_from j1 j2)), .second, .val (.long (own_to j1 j2)), .second, .val (.ref a3), .val (.int (f5 (own_from j1 j2) (own_to j1 j2) (own_low i1) (own_high i1 i2))), .val (.int (f5 (own_from j1 j2) (own_from j1 j2) (own_low i1) (own_high i1 i2))), .val (.int (f5 (own_to j1 j2) (own_to j1 j2) (own_low i1) (own_high i1 i2))), .unset, .unset, .unset] [(.long (own_to j1 j2))]))
      refine own_on (fun _ k => XS.iload X9.here hx rfl (hb hby at_105) rfl k) ?_
      show own_Go p.tables e below _ (T9.setTop (mkF m 107 #[.val (.int i1), .val (.int i2), .val (.long j1), .second, .val (.long j2), .second, .val (.int (own_low i1)), .val (.int (own_high i1 i2)), .val (.long (own_from j1 j2)), .second, .val (.long (own_to j1 j2)), .second, .val (.ref a3), .val (.int (f5 (own_from j1 j2) (own_to j1 j2) (own_low i1) (own_high i1 i2))), .val (.int (f5 (own_from j1 j2) (own_from j1 j2) (own_low i1) (own_high i1 i2))), .val (.int (f5 (own_to j1 j2) (own_to j1 j2) (own_low i1) (own_high i1 i2))), .unset, .unset, .unset] [(.int (own_high i1 i2)), (.long (own_to j1 j2))]))
      refine own_on (fun _ k => XT.i2l X9.here hx rfl (hb hby at_107) rfl k) ?_
      show own_Go p.tables e below _ (T9.setTop (mkF m 108 #[.val (.int i1), .val (.int i2), .val (.long j1), .second, .val (.long j2), .second, .val (.int (own_low i1)), .val (.int (own_high i1 i2)), .val (.long (own_from j1 j2)), .second, .val (.long (own_to j1 j2)), .second, .val (.ref a3), .val (.int (f5 (own_from j1 j2) (own_to j1 j2) (own_low i1) (own_high i1 i2))), .val (.int (f5 (own_from j1 j2) (own_from j1 j2) (own_low i1) (own_high i1 i2))), .val (.int (f5 (own_to j1 j2) (own_to j1 j2) (own_low i1) (own_high i1 i2))), .unset, .unset, .unset] [(.long ((own_high i1 i2).toInt64)), (.long (own_to j1 j2))]))
      obtain ⟨_, T11, L11, X11, ⟨rfl, M11, e11⟩, st11⟩ := own_callS X9 hx hZ hown (hw _ (List.mem_of_getElem? (i := 7) rfl)) (hw _ (List.mem_of_getElem? (i := 8) rfl)) (hw _ (List.mem_of_getElem? (i := 5) rfl)) (hw _ (List.mem_of_getElem? (i := 9) rfl)) (by decide) (W := 0) (rm2 l Z a0 hw [] (own_to j1 j2) ((own_high i1 i2).toInt64) T4.heap n0 (Nat.le_trans Z0 K4.1) ) (by decide) (by decide) e9 (g := (mkF m 108 #[.val (.int i1), .val (.int i2), .val (.long j1), .second, .val (.long j2), .second, .val (.int (own_low i1)), .val (.int (own_high i1 i2)), .val (.long (own_from j1 j2)), .second, .val (.long (own_to j1 j2)), .second, .val (.ref a3), .val (.int (f5 (own_from j1 j2) (own_to j1 j2) (own_low i1) (own_high i1 i2))), .val (.int (f5 (own_from j1 j2) (own_from j1 j2) (own_low i1) (own_high i1 i2))), .val (.int (f5 (own_to j1 j2) (own_to j1 j2) (own_low i1) (own_high i1 i2))), .unset, .unset, .unset] [(.long ((own_high i1 i2).toInt64)), (.long (own_to j1 j2))])) rfl (by rw [hml]; rfl) (argsL := [(.long (own_to j1 j2)), (.long ((own_high i1 i2).toInt64))]) (rest := []) rfl (lenOf pd0 rfl) rfl (by show 2 * 0 + _ ≤ _; exact Nat.le_of_eq rfl) (hb hby at_108) (by decide) (by decide)
      have N11 := Fr.app N9 M11
      refine own_on st11 ?_
      show own_Go p.tables e below _ (T11.setTop (mkF m 111 #[.val (.int i1), .val (.int i2), .val (.long j1), .second, .val (.long j2), .second, .val (.int (own_low i1)), .val (.int (own_high i1 i2)), .val (.long (own_from j1 j2)), .second, .val (.long (own_to j1 j2)), .second, .val (.ref a3), .val (.int (f5 (own_from j1 j2) (own_to j1 j2) (own_low i1) (own_high i1 i2))), .val (.int (f5 (own_from j1 j2) (own_from j1 j2) (own_low i1) (own_high i1 i2))), .val (.int (f5 (own_to j1 j2) (own_to j1 j2) (own_low i1) (own_high i1 i2))), .unset, .unset, .unset] [(.long (f2 (own_to j1 j2) ((own_high i1 i2).toInt64)))]))
      refine own_on (fun _ k => XS.iload X11.here hx rfl (hb hby at_111) rfl k) ?_
      show own_Go p.tables e below _ (T11.setTop (mkF m 113 #[.val (.int i1), .val (.int i2), .val (.long j1), .second, .val (.long j2), .second, .val (.int (own_low i1)), .val (.int (own_high i1 i2)), .val (.long (own_from j1 j2)), .second, .val (.long (own_to j1 j2)), .second, .val (.ref a3), .val (.int (f5 (own_from j1 j2) (own_to j1 j2) (own_low i1) (own_high i1 i2))), .val (.int (f5 (own_from j1 j2) (own_from j1 j2) (own_low i1) (own_high i1 i2))), .val (.int (f5 (own_to j1 j2) (own_to j1 j2) (own_low i1) (own_high i1 i2))), .unset, .unset, .unset] [(.int (own_high i1 i2)), (.long (f2 (own_to j1 j2) ((own_high i1 i2).toInt64)))]))
      refine own_on (fun _ k => XT.i2l X11.here hx rfl (hb hby at_113) rfl k) ?_
      show own_Go p.tables e below _ (T11.setTop (mkF m 114 #[.val (.int i1), .val (.int i2), .val (.long j1), .second, .val (.long j2), .second, .val (.int (own_low i1)), .val (.int (own_high i1 i2)), .val (.long (own_from j1 j2)), .second, .val (.long (own_to j1 j2)), .second, .val (.ref a3), .val (.int (f5 (own_from j1 j2) (own_to j1 j2) (own_low i1) (own_high i1 i2))), .val (.int (f5 (own_from j1 j2) (own_from j1 j2) (own_low i1) (own_high i1 i2))), .val (.int (f5 (own_to j1 j2) (own_to j1 j2) (own_low i1) (own_high i1 i2))), .unset, .unset, .unset] [(.long ((own_high i1 i2).toInt64)), (.long (f2 (own_to j1 j2) ((own_high i1 i2).toInt64)))]))
      refine own_on (fun _ k => XT.lcmp X11.here hx rfl (hb hby at_114) rfl k) ?_
      show own_Go p.tables e below _ (T11.setTop (mkF m 115 #[.val (.int i1), .val (.int i2), .val (.long j1), .second, .val (.long j2), .second, .val (.int (own_low i1)), .val (.int (own_high i1 i2)), .val (.long (own_from j1 j2)), .second, .val (.long (own_to j1 j2)), .second, .val (.ref a3), .val (.int (f5 (own_from j1 j2) (own_to j1 j2) (own_low i1) (own_high i1 i2))), .val (.int (f5 (own_from j1 j2) (own_from j1 j2) (own_low i1) (own_high i1 i2))), .val (.int (f5 (own_to j1 j2) (own_to j1 j2) (own_low i1) (own_high i1 i2))), .unset, .unset, .unset] [(.int (XT.cmpL (f2 (own_to j1 j2) ((own_high i1 i2).toInt64)) ((own_high i1 i2).toInt64)))]))
      by_cases hc12 : (f2 (own_to j1 j2) ((own_high i1 i2).toInt64)) = ((own_high i1 i2).toInt64)
      · refine own_on (fun _ k => XS.ifNo X11.here hx rfl (hb hby at_115) rfl (XT.ll_ne_f hc12) k) ?_
        show own_Go p.tables e below _ (T11.setTop (mkF m 118 #[.val (.int i1), .val (.int i2), .val (.long j1), .second, .val (.long j2), .second, .val (.int (own_low i1)), .val (.int (own_high i1 i2)), .val (.long (own_from j1 j2)), .second, .val (.long (own_to j1 j2)), .second, .val (.ref a3), .val (.int (f5 (own_from j1 j2) (own_to j1 j2) (own_low i1) (own_high i1 i2))), .val (.int (f5 (own_from j1 j2) (own_from j1 j2) (own_low i1) (own_high i1 i2))), .val (.int (f5 (own_to j1 j2) (own_to j1 j2) (own_low i1) (own_high i1 i2))), .unset, .unset, .unset] []))
        refine own_on (fun _ k => XT.iconstV X11.here hx rfl (1 : Int32) (hb hby at_118) (by decide) k) ?_
        show own_Go p.tables e below _ (T11.setTop (mkF m 119 #[.val (.int i1), .val (.int i2), .val (.long j1), .second, .val (.long j2), .second, .val (.int (own_low i1)), .val (.int (own_high i1 i2)), .val (.long (own_from j1 j2)), .second, .val (.long (own_to j1 j2)), .second, .val (.ref a3), .val (.int (f5 (own_from j1 j2) (own_to j1 j2) (own_low i1) (own_high i1 i2))), .val (.int (f5 (own_from j1 j2) (own_from j1 j2) (own_low i1) (own_high i1 i2))), .val (.int (f5 (own_to j1 j2) (own_to j1 j2) (own_low i1) (own_high i1 i2))), .unset, .unset, .unset] [(.int (1 : Int32))]))
        refine own_on (fun _ k => XS.goto X11.here hx rfl (pc0 := 119) (pc' := 123) rfl (hb hby at_119) (by decide) (by decide) k) ?_
        show own_Go p.tables e below _ (T11.setTop (mkF m 123 #[.val (.int i1), .val (.int i2), .val (.long j1), .second, .val (.long j2), .second, .val (.int (own_low i1)), .val (.int (own_high i1 i2)), .val (.long (own_from j1 j2)), .second, .val (.long (own_to j1 j2)), .second, .val (.ref a3), .val (.int (f5 (own_from j1 j2) (own_to j1 j2) (own_low i1) (own_high i1 i2))), .val (.int (f5 (own_from j1 j2) (own_from j1 j2) (own_low i1) (own_high i1 i2))), .val (.int (f5 (own_to j1 j2) (own_to j1 j2) (own_low i1) (own_high i1 i2))), .unset, .unset, .unset] [(.int (1 : Int32))]))
        exact own_here ⟨T11, _, X11, N11, e11, by rw [show (own_ct i1 i2 j1 j2) = (1 : Int32) from by simp only [own_ct, if_pos hc10, if_pos hc12]]⟩
      · refine own_on (fun _ k => XS.ifYes X11.here hx rfl (pc0 := 115) (pc' := 122) rfl (hb hby at_115) rfl (XT.ll_ne_t hc12) (by decide) (by decide) k) ?_
        show own_Go p.tables e below _ (T11.setTop (mkF m 122 #[.val (.int i1), .val (.int i2), .val (.long j1), .second, .val (.long j2), .second, .val (.int (own_low i1)), .val (.int (own_high i1 i2)), .val (.long (own_from j1 j2)), .second, .val (.long (own_to j1 j2)), .second, .val (.ref a3), .val (.int (f5 (own_from j1 j2) (own_to j1 j2) (own_low i1) (own_high i1 i2))), .val (.int (f5 (own_from j1 j2) (own_from j1 j2) (own_low i1) (own_high i1 i2))), .val (.int (f5 (own_to j1 j2) (own_to j1 j2) (own_low i1) (own_high i1 i2))), .unset, .unset, .unset] []))
        refine own_on (fun _ k => XT.iconstV X11.here hx rfl (0 : Int32) (hb hby at_122) (by decide) k) ?_
        show own_Go p.tables e below _ (T11.setTop (mkF m 123 #[.val (.int i1), .val (.int i2), .val (.long j1), .second, .val (.long j2), .second, .val (.int (own_low i1)), .val (.int (own_high i1 i2)), .val (.long (own_from j1 j2)), .second, .val (.long (own_to j1 j2)), .second, .val (.ref a3), .val (.int (f5 (own_from j1 j2) (own_to j1 j2) (own_low i1) (own_high i1 i2))), .val (.int (f5 (own_from j1 j2) (own_from j1 j2) (own_low i1) (own_high i1 i2))), .val (.int (f5 (own_to j1 j2) (own_to j1 j2) (own_low i1) (own_high i1 i2))), .unset, .unset, .unset] [(.int (0 : Int32))]))
        exact own_here ⟨T11, _, X11, N11, e11, by rw [show (own_ct i1 i2 j1 j2) = (0 : Int32) from by simp only [own_ct, if_pos hc10, if_neg hc12]]⟩
    · refine own_on (fun _ k => XS.ifYes X9.here hx rfl (pc0 := 100) (pc' := 122) rfl (hb hby at_100) rfl (XT.ll_ne_t hc10) (by decide) (by decide) k) ?_
      show own_Go p.tables e below _ (T9.setTop (mkF m 122 #[.val (.int i1), .val (.int i2), .val (.long j1), .second, .val (.long j2), .second, .val (.int (own_low i1)), .val (.int (own_high i1 i2)), .val (.long (own_from j1 j2)), .second, .val (.long (own_to j1 j2)), .second, .val (.ref a3), .val (.int (f5 (own_from j1 j2) (own_to j1 j2) (own_low i1) (own_high i1 i2))), .val (.int (f5 (own_from j1 j2) (own_from j1 j2) (own_low i1) (own_high i1 i2))), .val (.int (f5 (own_to j1 j2) (own_to j1 j2) (own_low i1) (own_high i1 i2))), .unset, .unset, .unset] []))
      refine own_on (fun _ k => XT.iconstV X9.here hx rfl (0 : Int32) (hb hby at_122) (by decide) k) ?_
      show own_Go p.tables e below _ (T9.setTop (mkF m 123 #[.val (.int i1), .val (.int i2), .val (.long j1), .second, .val (.long j2), .second, .val (.int (own_low i1)), .val (.int (own_high i1 i2)), .val (.long (own_from j1 j2)), .second, .val (.long (own_to j1 j2)), .second, .val (.ref a3), .val (.int (f5 (own_from j1 j2) (own_to j1 j2) (own_low i1) (own_high i1 i2))), .val (.int (f5 (own_from j1 j2) (own_from j1 j2) (own_low i1) (own_high i1 i2))), .val (.int (f5 (own_to j1 j2) (own_to j1 j2) (own_low i1) (own_high i1 i2))), .unset, .unset, .unset] [(.int (0 : Int32))]))
      exact own_here ⟨T9, _, X9, N9, e9, by rw [show (own_ct i1 i2 j1 j2) = (0 : Int32) from by simp only [own_ct, if_neg hc10]]⟩
  refine own_go st8 ?_
  show own_Fin p.tables e below _ (T8.setTop (mkF m 123 #[.val (.int i1), .val (.int i2), .val (.long j1), .second, .val (.long j2), .second, .val (.int (own_low i1)), .val (.int (own_high i1 i2)), .val (.long (own_from j1 j2)), .second, .val (.long (own_to j1 j2)), .second, .val (.ref a3), .val (.int (f5 (own_from j1 j2) (own_to j1 j2) (own_low i1) (own_high i1 i2))), .val (.int (f5 (own_from j1 j2) (own_from j1 j2) (own_low i1) (own_high i1 i2))), .val (.int (f5 (own_to j1 j2) (own_to j1 j2) (own_low i1) (own_high i1 i2))), .unset, .unset, .unset] [(.int (own_ct i1 i2 j1 j2))]))
  refine own_go (fun _ k => XS.istore X8.here hx rfl (hb hby at_123) rfl (l' := #[.val (.int i1), .val (.int i2), .val (.long j1), .second, .val (.long j2), .second, .val (.int (own_low i1)), .val (.int (own_high i1 i2)), .val (.long (own_from j1 j2)), .second, .val (.long (own_to j1 j2)), .second, .val (.ref a3), .val (.int (f5 (own_from j1 j2) (own_to j1 j2) (own_low i1) (own_high i1 i2))), .val (.int (f5 (own_from j1 j2) (own_from j1 j2) (own_low i1) (own_high i1 i2))), .val (.int (f5 (own_to j1 j2) (own_to j1 j2) (own_low i1) (own_high i1 i2))), .val (.int (own_ct i1 i2 j1 j2)), .unset, .unset]) rfl k) ?_
  show own_Fin p.tables e below _ (T8.setTop (mkF m 125 #[.val (.int i1), .val (.int i2), .val (.long j1), .second, .val (.long j2), .second, .val (.int (own_low i1)), .val (.int (own_high i1 i2)), .val (.long (own_from j1 j2)), .second, .val (.long (own_to j1 j2)), .second, .val (.ref a3), .val (.int (f5 (own_from j1 j2) (own_to j1 j2) (own_low i1) (own_high i1 i2))), .val (.int (f5 (own_from j1 j2) (own_from j1 j2) (own_low i1) (own_high i1 i2))), .val (.int (f5 (own_to j1 j2) (own_to j1 j2) (own_low i1) (own_high i1 i2))), .val (.int (own_ct i1 i2 j1 j2)), .unset, .unset] []))
  obtain ⟨_, ⟨T13, L13, X13, N13, e13, rfl⟩, st13⟩ : own_Go p.tables e below (fun t => ∃ T' L', Stand p l e room_1 s m #[(.int i1), (.int i2), (.long j1), (.long j2)] below meth c T' L' 1 2 ∧ Fr n0 L' ∧ T'.heap = T4.heap ∧ t = T'.setTop (mkF m 145 #[.val (.int i1), .val (.int i2), .val (.long j1), .second, .val (.long j2), .second, .val (.int (own_low i1)), .val (.int (own_high i1 i2)), .val (.long (own_from j1 j2)), .second, .val (.long (own_to j1 j2)), .second, .val (.ref a3), .val (.int (f5 (own_from j1 j2) (own_to j1 j2) (own_low i1) (own_high i1 i2))), .val (.int (f5 (own_from j1 j2) (own_from j1 j2) (own_low i1) (own_high i1 i2))), .val (.int (f5 (own_to j1 j2) (own_to j1 j2) (own_low i1) (own_high i1 i2))), .val (.int (own_ct i1 i2 j1 j2)), .unset, .unset] [(.int (own_fi i1 i2 j1 j2))])) (T8.setTop (mkF m 125 #[.val (.int i1), .val (.int i2), .val (.long j1), .second, .val (.long j2), .second, .val (.int (own_low i1)), .val (.int (own_high i1 i2)), .val (.long (own_from j1 j2)), .second, .val (.long (own_to j1 j2)), .second, .val (.ref a3), .val (.int (f5 (own_from j1 j2) (own_to j1 j2) (own_low i1) (own_high i1 i2))), .val (.int (f5 (own_from j1 j2) (own_from j1 j2) (own_low i1) (own_high i1 i2))), .val (.int (f5 (own_to j1 j2) (own_to j1 j2) (own_low i1) (own_high i1 i2))), .val (.int (own_ct i1 i2 j1 j2)), .unset, .unset] [])) := by
    refine own_on (fun _ k => XT.lload X8.here hx rfl (hb hby at_125) rfl k) ?_
    show own_Go p.tables e below _ (T8.setTop (mkF m 127 #[.val (.int i1), .val (.int i2), .val (.long j1), .second, .val (.long j2), .second, .val (.int (own_low i1)), .val (.int (own_high i1 i2)), .val (.long (own_from j1 j2)), .second, .val (.long (own_to j1 j2)), .second, .val (.ref a3), .val (.int (f5 (own_from j1 j2) (own_to j1 j2) (own_low i1) (own_high i1 i2))), .val (.int (f5 (own_from j1 j2) (own_from j1 j2) (own_low i1) (own_high i1 i2))), .val (.int (f5 (own_to j1 j2) (own_to j1 j2) (own_low i1) (own_high i1 i2))), .val (.int (own_ct i1 i2 j1 j2)), .unset, .unset] [(.long (own_from j1 j2))]))
    refine own_on (fun _ k => XS.iload X8.here hx rfl (hb hby at_127) rfl k) ?_
    show own_Go p.tables e below _ (T8.setTop (mkF m 129 #[.val (.int i1), .val (.int i2), .val (.long j1), .second, .val (.long j2), .second, .val (.int (own_low i1)), .val (.int (own_high i1 i2)), .val (.long (own_from j1 j2)), .second, .val (.long (own_to j1 j2)), .second, .val (.ref a3), .val (.int (f5 (own_from j1 j2) (own_to j1 j2) (own_low i1) (own_high i1 i2))), .val (.int (f5 (own_from j1 j2) (own_from j1 j2) (own_low i1) (own_high i1 i2))), .val (.int (f5 (own_to j1 j2) (own_to j1 j2) (own_low i1) (own_high i1 i2))), .val (.int (own_ct i1 i2 j1 j2)), .unset, .unset] [(.int (own_low i1)), (.long (own_from j1 j2))]))
    refine own_on (fun _ k => XS.iload X8.here hx rfl (hb hby at_129) rfl k) ?_
    show own_Go p.tables e below _ (T8.setTop (mkF m 131 #[.val (.int i1), .val (.int i2), .val (.long j1), .second, .val (.long j2), .second, .val (.int (own_low i1)), .val (.int (own_high i1 i2)), .val (.long (own_from j1 j2)), .second, .val (.long (own_to j1 j2)), .second, .val (.ref a3), .val (.int (f5 (own_from j1 j2) (own_to j1 j2) (own_low i1) (own_high i1 i2))), .val (.int (f5 (own_from j1 j2) (own_from j1 j2) (own_low i1) (own_high i1 i2))), .val (.int (f5 (own_to j1 j2) (own_to j1 j2) (own_low i1) (own_high i1 i2))), .val (.int (own_ct i1 i2 j1 j2)), .unset, .unset] [(.int (own_high i1 i2)), (.int (own_low i1)), (.long (own_from j1 j2))]))
    obtain ⟨_, T14, L14, X14, ⟨rfl, M14, e14⟩, st14⟩ := own_callS X8 hx hZ hown (hw _ (List.mem_of_getElem? (i := 34) rfl)) (hw _ (List.mem_of_getElem? (i := 35) rfl)) (hw _ (List.mem_of_getElem? (i := 36) rfl)) (hw _ (List.mem_of_getElem? (i := 37) rfl)) (by decide) (W := 0) (rm6 l Z a0 hw [] (own_from j1 j2) (own_low i1) (own_high i1 i2) T4.heap n0 (Nat.le_trans Z0 K4.1) ) (by decide) (by decide) e8 (g := (mkF m 131 #[.val (.int i1), .val (.int i2), .val (.long j1), .second, .val (.long j2), .second, .val (.int (own_low i1)), .val (.int (own_high i1 i2)), .val (.long (own_from j1 j2)), .second, .val (.long (own_to j1 j2)), .second, .val (.ref a3), .val (.int (f5 (own_from j1 j2) (own_to j1 j2) (own_low i1) (own_high i1 i2))), .val (.int (f5 (own_from j1 j2) (own_from j1 j2) (own_low i1) (own_high i1 i2))), .val (.int (f5 (own_to j1 j2) (own_to j1 j2) (own_low i1) (own_high i1 i2))), .val (.int (own_ct i1 i2 j1 j2)), .unset, .unset] [(.int (own_high i1 i2)), (.int (own_low i1)), (.long (own_from j1 j2))])) rfl (by rw [hml]; rfl) (argsL := [(.long (own_from j1 j2)), (.int (own_low i1)), (.int (own_high i1 i2))]) (rest := []) rfl (lenOf pd4 rfl) rfl (by show 2 * 0 + _ ≤ _; exact Nat.le_of_eq rfl) (hb hby at_131) (by decide) (by decide)
    have N14 := Fr.app N8 M14
    refine own_on st14 ?_
    show own_Go p.tables e below _ (T14.setTop (mkF m 134 #[.val (.int i1), .val (.int i2), .val (.long j1), .second, .val (.long j2), .second, .val (.int (own_low i1)), .val (.int (own_high i1 i2)), .val (.long (own_from j1 j2)), .second, .val (.long (own_to j1 j2)), .second, .val (.ref a3), .val (.int (f5 (own_from j1 j2) (own_to j1 j2) (own_low i1) (own_high i1 i2))), .val (.int (f5 (own_from j1 j2) (own_from j1 j2) (own_low i1) (own_high i1 i2))), .val (.int (f5 (own_to j1 j2) (own_to j1 j2) (own_low i1) (own_high i1 i2))), .val (.int (own_ct i1 i2 j1 j2)), .unset, .unset] [(.long (f6 (own_from j1 j2) (own_low i1) (own_high i1 i2)))]))
    refine own_on (fun _ k => XT.lload X14.here hx rfl (hb hby at_134) rfl k) ?_
    show own_Go p.tables e below _ (T14.setTop (mkF m 136 #[.val (.int i1), .val (.int i2), .val (.long j1), .second, .val (.long j2), .second, .val (.int (own_low i1)), .val (.int (own_high i1 i2)), .val (.long (own_from j1 j2)), .second, .val (.long (own_to j1 j2)), .second, .val (.ref a3), .val (.int (f5 (own_from j1 j2) (own_to j1 j2) (own_low i1) (own_high i1 i2))), .val (.int (f5 (own_from j1 j2) (own_from j1 j2) (own_low i1) (own_high i1 i2))), .val (.int (f5 (own_to j1 j2) (own_to j1 j2) (own_low i1) (own_high i1 i2))), .val (.int (own_ct i1 i2 j1 j2)), .unset, .unset] [(.long (own_from j1 j2)), (.long (f6 (own_from j1 j2) (own_low i1) (own_high i1 i2)))]))
    refine own_on (fun _ k => XT.lcmp X14.here hx rfl (hb hby at_136) rfl k) ?_
    show own_Go p.tables e below _ (T14.setTop (mkF m 137 #[.val (.int i1), .val (.int i2), .val (.long j1), .second, .val (.long j2), .second, .val (.int (own_low i1)), .val (.int (own_high i1 i2)), .val (.long (own_from j1 j2)), .second, .val (.long (own_to j1 j2)), .second, .val (.ref a3), .val (.int (f5 (own_from j1 j2) (own_to j1 j2) (own_low i1) (own_high i1 i2))), .val (.int (f5 (own_from j1 j2) (own_from j1 j2) (own_low i1) (own_high i1 i2))), .val (.int (f5 (own_to j1 j2) (own_to j1 j2) (own_low i1) (own_high i1 i2))), .val (.int (own_ct i1 i2 j1 j2)), .unset, .unset] [(.int (XT.cmpL (f6 (own_from j1 j2) (own_low i1) (own_high i1 i2)) (own_from j1 j2)))]))
    by_cases hc15 : (f6 (own_from j1 j2) (own_low i1) (own_high i1 i2)) = (own_from j1 j2)
    · refine own_on (fun _ k => XS.ifNo X14.here hx rfl (hb hby at_137) rfl (XT.ll_ne_f hc15) k) ?_
      show own_Go p.tables e below _ (T14.setTop (mkF m 140 #[.val (.int i1), .val (.int i2), .val (.long j1), .second, .val (.long j2), .second, .val (.int (own_low i1)), .val (.int (own_high i1 i2)), .val (.long (own_from j1 j2)), .second, .val (.long (own_to j1 j2)), .second, .val (.ref a3), .val (.int (f5 (own_from j1 j2) (own_to j1 j2) (own_low i1) (own_high i1 i2))), .val (.int (f5 (own_from j1 j2) (own_from j1 j2) (own_low i1) (own_high i1 i2))), .val (.int (f5 (own_to j1 j2) (own_to j1 j2) (own_low i1) (own_high i1 i2))), .val (.int (own_ct i1 i2 j1 j2)), .unset, .unset] []))
      refine own_on (fun _ k => XT.iconstV X14.here hx rfl (1 : Int32) (hb hby at_140) (by decide) k) ?_
      show own_Go p.tables e below _ (T14.setTop (mkF m 141 #[.val (.int i1), .val (.int i2), .val (.long j1), .second, .val (.long j2), .second, .val (.int (own_low i1)), .val (.int (own_high i1 i2)), .val (.long (own_from j1 j2)), .second, .val (.long (own_to j1 j2)), .second, .val (.ref a3), .val (.int (f5 (own_from j1 j2) (own_to j1 j2) (own_low i1) (own_high i1 i2))), .val (.int (f5 (own_from j1 j2) (own_from j1 j2) (own_low i1) (own_high i1 i2))), .val (.int (f5 (own_to j1 j2) (own_to j1 j2) (own_low i1) (own_high i1 i2))), .val (.int (own_ct i1 i2 j1 j2)), .unset, .unset] [(.int (1 : Int32))]))
      refine own_on (fun _ k => XS.goto X14.here hx rfl (pc0 := 141) (pc' := 145) rfl (hb hby at_141) (by decide) (by decide) k) ?_
      show own_Go p.tables e below _ (T14.setTop (mkF m 145 #[.val (.int i1), .val (.int i2), .val (.long j1), .second, .val (.long j2), .second, .val (.int (own_low i1)), .val (.int (own_high i1 i2)), .val (.long (own_from j1 j2)), .second, .val (.long (own_to j1 j2)), .second, .val (.ref a3), .val (.int (f5 (own_from j1 j2) (own_to j1 j2) (own_low i1) (own_high i1 i2))), .val (.int (f5 (own_from j1 j2) (own_from j1 j2) (own_low i1) (own_high i1 i2))), .val (.int (f5 (own_to j1 j2) (own_to j1 j2) (own_low i1) (own_high i1 i2))), .val (.int (own_ct i1 i2 j1 j2)), .unset, .unset] [(.int (1 : Int32))]))
      exact own_here ⟨T14, _, X14, N14, e14, by rw [show (own_fi i1 i2 j1 j2) = (1 : Int32) from by simp only [own_fi, if_pos hc15]]⟩
    · refine own_on (fun _ k => XS.ifYes X14.here hx rfl (pc0 := 137) (pc' := 144) rfl (hb hby at_137) rfl (XT.ll_ne_t hc15) (by decide) (by decide) k) ?_
      show own_Go p.tables e below _ (T14.setTop (mkF m 144 #[.val (.int i1), .val (.int i2), .val (.long j1), .second, .val (.long j2), .second, .val (.int (own_low i1)), .val (.int (own_high i1 i2)), .val (.long (own_from j1 j2)), .second, .val (.long (own_to j1 j2)), .second, .val (.ref a3), .val (.int (f5 (own_from j1 j2) (own_to j1 j2) (own_low i1) (own_high i1 i2))), .val (.int (f5 (own_from j1 j2) (own_from j1 j2) (own_low i1) (own_high i1 i2))), .val (.int (f5 (own_to j1 j2) (own_to j1 j2) (own_low i1) (own_high i1 i2))), .val (.int (own_ct i1 i2 j1 j2)), .unset, .unset] []))
      refine own_on (fun _ k => XT.iconstV X14.here hx rfl (0 : Int32) (hb hby at_144) (by decide) k) ?_
      show own_Go p.tables e below _ (T14.setTop (mkF m 145 #[.val (.int i1), .val (.int i2), .val (.long j1), .second, .val (.long j2), .second, .val (.int (own_low i1)), .val (.int (own_high i1 i2)), .val (.long (own_from j1 j2)), .second, .val (.long (own_to j1 j2)), .second, .val (.ref a3), .val (.int (f5 (own_from j1 j2) (own_to j1 j2) (own_low i1) (own_high i1 i2))), .val (.int (f5 (own_from j1 j2) (own_from j1 j2) (own_low i1) (own_high i1 i2))), .val (.int (f5 (own_to j1 j2) (own_to j1 j2) (own_low i1) (own_high i1 i2))), .val (.int (own_ct i1 i2 j1 j2)), .unset, .unset] [(.int (0 : Int32))]))
      exact own_here ⟨T14, _, X14, N14, e14, by rw [show (own_fi i1 i2 j1 j2) = (0 : Int32) from by simp only [own_fi, if_neg hc15]]⟩
  refine own_go st13 ?_
  show own_Fin p.tables e below _ (T13.setTop (mkF m 145 #[.val (.int i1), .val (.int i2), .val (.long j1), .second, .val (.long j2), .second, .val (.int (own_low i1)), .val (.int (own_high i1 i2)), .val (.long (own_from j1 j2)), .second, .val (.long (own_to j1 j2)), .second, .val (.ref a3), .val (.int (f5 (own_from j1 j2) (own_to j1 j2) (own_low i1) (own_high i1 i2))), .val (.int (f5 (own_from j1 j2) (own_from j1 j2) (own_low i1) (own_high i1 i2))), .val (.int (f5 (own_to j1 j2) (own_to j1 j2) (own_low i1) (own_high i1 i2))), .val (.int (own_ct i1 i2 j1 j2)), .unset, .unset] [(.int (own_fi i1 i2 j1 j2))]))
  refine own_go (fun _ k => XS.istore X13.here hx rfl (hb hby at_145) rfl (l' := #[.val (.int i1), .val (.int i2), .val (.long j1), .second, .val (.long j2), .second, .val (.int (own_low i1)), .val (.int (own_high i1 i2)), .val (.long (own_from j1 j2)), .second, .val (.long (own_to j1 j2)), .second, .val (.ref a3), .val (.int (f5 (own_from j1 j2) (own_to j1 j2) (own_low i1) (own_high i1 i2))), .val (.int (f5 (own_from j1 j2) (own_from j1 j2) (own_low i1) (own_high i1 i2))), .val (.int (f5 (own_to j1 j2) (own_to j1 j2) (own_low i1) (own_high i1 i2))), .val (.int (own_ct i1 i2 j1 j2)), .val (.int (own_fi i1 i2 j1 j2)), .unset]) rfl k) ?_
  show own_Fin p.tables e below _ (T13.setTop (mkF m 147 #[.val (.int i1), .val (.int i2), .val (.long j1), .second, .val (.long j2), .second, .val (.int (own_low i1)), .val (.int (own_high i1 i2)), .val (.long (own_from j1 j2)), .second, .val (.long (own_to j1 j2)), .second, .val (.ref a3), .val (.int (f5 (own_from j1 j2) (own_to j1 j2) (own_low i1) (own_high i1 i2))), .val (.int (f5 (own_from j1 j2) (own_from j1 j2) (own_low i1) (own_high i1 i2))), .val (.int (f5 (own_to j1 j2) (own_to j1 j2) (own_low i1) (own_high i1 i2))), .val (.int (own_ct i1 i2 j1 j2)), .val (.int (own_fi i1 i2 j1 j2)), .unset] []))
  obtain ⟨_, ⟨T16, L16, X16, N16, e16, rfl⟩, st16⟩ : own_Go p.tables e below (fun t => ∃ T' L', Stand p l e room_1 s m #[(.int i1), (.int i2), (.long j1), (.long j2)] below meth c T' L' 1 2 ∧ Fr n0 L' ∧ T'.heap = T4.heap ∧ t = T'.setTop (mkF m 167 #[.val (.int i1), .val (.int i2), .val (.long j1), .second, .val (.long j2), .second, .val (.int (own_low i1)), .val (.int (own_high i1 i2)), .val (.long (own_from j1 j2)), .second, .val (.long (own_to j1 j2)), .second, .val (.ref a3), .val (.int (f5 (own_from j1 j2) (own_to j1 j2) (own_low i1) (own_high i1 i2))), .val (.int (f5 (own_from j1 j2) (own_from j1 j2) (own_low i1) (own_high i1 i2))), .val (.int (f5 (own_to j1 j2) (own_to j1 j2) (own_low i1) (own_high i1 i2))), .val (.int (own_ct i1 i2 j1 j2)), .val (.int (own_fi i1 i2 j1 j2)), .unset] [(.int (own_ti i1 i2 j1 j2))])) (T13.setTop (mkF m 147 #[.val (.int i1), .val (.int i2), .val (.long j1), .second, .val (.long j2), .second, .val (.int (own_low i1)), .val (.int (own_high i1 i2)), .val (.long (own_from j1 j2)), .second, .val (.long (own_to j1 j2)), .second, .val (.ref a3), .val (.int (f5 (own_from j1 j2) (own_to j1 j2) (own_low i1) (own_high i1 i2))), .val (.int (f5 (own_from j1 j2) (own_from j1 j2) (own_low i1) (own_high i1 i2))), .val (.int (f5 (own_to j1 j2) (own_to j1 j2) (own_low i1) (own_high i1 i2))), .val (.int (own_ct i1 i2 j1 j2)), .val (.int (own_fi i1 i2 j1 j2)), .unset] [])) := by
    refine own_on (fun _ k => XT.lload X13.here hx rfl (hb hby at_147) rfl k) ?_
    show own_Go p.tables e below _ (T13.setTop (mkF m 149 #[.val (.int i1), .val (.int i2), .val (.long j1), .second, .val (.long j2), .second, .val (.int (own_low i1)), .val (.int (own_high i1 i2)), .val (.long (own_from j1 j2)), .second, .val (.long (own_to j1 j2)), .second, .val (.ref a3), .val (.int (f5 (own_from j1 j2) (own_to j1 j2) (own_low i1) (own_high i1 i2))), .val (.int (f5 (own_from j1 j2) (own_from j1 j2) (own_low i1) (own_high i1 i2))), .val (.int (f5 (own_to j1 j2) (own_to j1 j2) (own_low i1) (own_high i1 i2))), .val (.int (own_ct i1 i2 j1 j2)), .val (.int (own_fi i1 i2 j1 j2)), .unset] [(.long (own_to j1 j2))]))
    refine own_on (fun _ k => XS.iload X13.here hx rfl (hb hby at_149) rfl k) ?_
    show own_Go p.tables e below _ (T13.setTop (mkF m 151 #[.val (.int i1), .val (.int i2), .val (.long j1), .second, .val (.long j2), .second, .val (.int (own_low i1)), .val (.int (own_high i1 i2)), .val (.long (own_from j1 j2)), .second, .val (.long (own_to j1 j2)), .second, .val (.ref a3), .val (.int (f5 (own_from j1 j2) (own_to j1 j2) (own_low i1) (own_high i1 i2))), .val (.int (f5 (own_from j1 j2) (own_from j1 j2) (own_low i1) (own_high i1 i2))), .val (.int (f5 (own_to j1 j2) (own_to j1 j2) (own_low i1) (own_high i1 i2))), .val (.int (own_ct i1 i2 j1 j2)), .val (.int (own_fi i1 i2 j1 j2)), .unset] [(.int (own_low i1)), (.long (own_to j1 j2))]))
    refine own_on (fun _ k => XS.iload X13.here hx rfl (hb hby at_151) rfl k) ?_
    show own_Go p.tables e below _ (T13.setTop (mkF m 153 #[.val (.int i1), .val (.int i2), .val (.long j1), .second, .val (.long j2), .second, .val (.int (own_low i1)), .val (.int (own_high i1 i2)), .val (.long (own_from j1 j2)), .second, .val (.long (own_to j1 j2)), .second, .val (.ref a3), .val (.int (f5 (own_from j1 j2) (own_to j1 j2) (own_low i1) (own_high i1 i2))), .val (.int (f5 (own_from j1 j2) (own_from j1 j2) (own_low i1) (own_high i1 i2))), .val (.int (f5 (own_to j1 j2) (own_to j1 j2) (own_low i1) (own_high i1 i2))), .val (.int (own_ct i1 i2 j1 j2)), .val (.int (own_fi i1 i2 j1 j2)), .unset] [(.int (own_high i1 i2)), (.int (own_low i1)), (.long (own_to j1 j2))]))
    obtain ⟨_, T17, L17, X17, ⟨rfl, M17, e17⟩, st17⟩ := own_callS X13 hx hZ hown (hw _ (List.mem_of_getElem? (i := 34) rfl)) (hw _ (List.mem_of_getElem? (i := 35) rfl)) (hw _ (List.mem_of_getElem? (i := 36) rfl)) (hw _ (List.mem_of_getElem? (i := 37) rfl)) (by decide) (W := 0) (rm6 l Z a0 hw [] (own_to j1 j2) (own_low i1) (own_high i1 i2) T4.heap n0 (Nat.le_trans Z0 K4.1) ) (by decide) (by decide) e13 (g := (mkF m 153 #[.val (.int i1), .val (.int i2), .val (.long j1), .second, .val (.long j2), .second, .val (.int (own_low i1)), .val (.int (own_high i1 i2)), .val (.long (own_from j1 j2)), .second, .val (.long (own_to j1 j2)), .second, .val (.ref a3), .val (.int (f5 (own_from j1 j2) (own_to j1 j2) (own_low i1) (own_high i1 i2))), .val (.int (f5 (own_from j1 j2) (own_from j1 j2) (own_low i1) (own_high i1 i2))), .val (.int (f5 (own_to j1 j2) (own_to j1 j2) (own_low i1) (own_high i1 i2))), .val (.int (own_ct i1 i2 j1 j2)), .val (.int (own_fi i1 i2 j1 j2)), .unset] [(.int (own_high i1 i2)), (.int (own_low i1)), (.long (own_to j1 j2))])) rfl (by rw [hml]; rfl) (argsL := [(.long (own_to j1 j2)), (.int (own_low i1)), (.int (own_high i1 i2))]) (rest := []) rfl (lenOf pd4 rfl) rfl (by show 2 * 0 + _ ≤ _; exact Nat.le_of_eq rfl) (hb hby at_153) (by decide) (by decide)
    have N17 := Fr.app N13 M17
    refine own_on st17 ?_
    show own_Go p.tables e below _ (T17.setTop (mkF m 156 #[.val (.int i1), .val (.int i2), .val (.long j1), .second, .val (.long j2), .second, .val (.int (own_low i1)), .val (.int (own_high i1 i2)), .val (.long (own_from j1 j2)), .second, .val (.long (own_to j1 j2)), .second, .val (.ref a3), .val (.int (f5 (own_from j1 j2) (own_to j1 j2) (own_low i1) (own_high i1 i2))), .val (.int (f5 (own_from j1 j2) (own_from j1 j2) (own_low i1) (own_high i1 i2))), .val (.int (f5 (own_to j1 j2) (own_to j1 j2) (own_low i1) (own_high i1 i2))), .val (.int (own_ct i1 i2 j1 j2)), .val (.int (own_fi i1 i2 j1 j2)), .unset] [(.long (f6 (own_to j1 j2) (own_low i1) (own_high i1 i2)))]))
    refine own_on (fun _ k => XT.lload X17.here hx rfl (hb hby at_156) rfl k) ?_
    show own_Go p.tables e below _ (T17.setTop (mkF m 158 #[.val (.int i1), .val (.int i2), .val (.long j1), .second, .val (.long j2), .second, .val (.int (own_low i1)), .val (.int (own_high i1 i2)), .val (.long (own_from j1 j2)), .second, .val (.long (own_to j1 j2)), .second, .val (.ref a3), .val (.int (f5 (own_from j1 j2) (own_to j1 j2) (own_low i1) (own_high i1 i2))), .val (.int (f5 (own_from j1 j2) (own_from j1 j2) (own_low i1) (own_high i1 i2))), .val (.int (f5 (own_to j1 j2) (own_to j1 j2) (own_low i1) (own_high i1 i2))), .val (.int (own_ct i1 i2 j1 j2)), .val (.int (own_fi i1 i2 j1 j2)), .unset] [(.long (own_to j1 j2)), (.long (f6 (own_to j1 j2) (own_low i1) (own_high i1 i2)))]))
    refine own_on (fun _ k => XT.lcmp X17.here hx rfl (hb hby at_158) rfl k) ?_
    show own_Go p.tables e below _ (T17.setTop (mkF m 159 #[.val (.int i1), .val (.int i2), .val (.long j1), .second, .val (.long j2), .second, .val (.int (own_low i1)), .val (.int (own_high i1 i2)), .val (.long (own_from j1 j2)), .second, .val (.long (own_to j1 j2)), .second, .val (.ref a3), .val (.int (f5 (own_from j1 j2) (own_to j1 j2) (own_low i1) (own_high i1 i2))), .val (.int (f5 (own_from j1 j2) (own_from j1 j2) (own_low i1) (own_high i1 i2))), .val (.int (f5 (own_to j1 j2) (own_to j1 j2) (own_low i1) (own_high i1 i2))), .val (.int (own_ct i1 i2 j1 j2)), .val (.int (own_fi i1 i2 j1 j2)), .unset] [(.int (XT.cmpL (f6 (own_to j1 j2) (own_low i1) (own_high i1 i2)) (own_to j1 j2)))]))
    by_cases hc18 : (f6 (own_to j1 j2) (own_low i1) (own_high i1 i2)) = (own_to j1 j2)
    · refine own_on (fun _ k => XS.ifNo X17.here hx rfl (hb hby at_159) rfl (XT.ll_ne_f hc18) k) ?_
      show own_Go p.tables e below _ (T17.setTop (mkF m 162 #[.val (.int i1), .val (.int i2), .val (.long j1), .second, .val (.long j2), .second, .val (.int (own_low i1)), .val (.int (own_high i1 i2)), .val (.long (own_from j1 j2)), .second, .val (.long (own_to j1 j2)), .second, .val (.ref a3), .val (.int (f5 (own_from j1 j2) (own_to j1 j2) (own_low i1) (own_high i1 i2))), .val (.int (f5 (own_from j1 j2) (own_from j1 j2) (own_low i1) (own_high i1 i2))), .val (.int (f5 (own_to j1 j2) (own_to j1 j2) (own_low i1) (own_high i1 i2))), .val (.int (own_ct i1 i2 j1 j2)), .val (.int (own_fi i1 i2 j1 j2)), .unset] []))
      refine own_on (fun _ k => XT.iconstV X17.here hx rfl (1 : Int32) (hb hby at_162) (by decide) k) ?_
      show own_Go p.tables e below _ (T17.setTop (mkF m 163 #[.val (.int i1), .val (.int i2), .val (.long j1), .second, .val (.long j2), .second, .val (.int (own_low i1)), .val (.int (own_high i1 i2)), .val (.long (own_from j1 j2)), .second, .val (.long (own_to j1 j2)), .second, .val (.ref a3), .val (.int (f5 (own_from j1 j2) (own_to j1 j2) (own_low i1) (own_high i1 i2))), .val (.int (f5 (own_from j1 j2) (own_from j1 j2) (own_low i1) (own_high i1 i2))), .val (.int (f5 (own_to j1 j2) (own_to j1 j2) (own_low i1) (own_high i1 i2))), .val (.int (own_ct i1 i2 j1 j2)), .val (.int (own_fi i1 i2 j1 j2)), .unset] [(.int (1 : Int32))]))
      refine own_on (fun _ k => XS.goto X17.here hx rfl (pc0 := 163) (pc' := 167) rfl (hb hby at_163) (by decide) (by decide) k) ?_
      show own_Go p.tables e below _ (T17.setTop (mkF m 167 #[.val (.int i1), .val (.int i2), .val (.long j1), .second, .val (.long j2), .second, .val (.int (own_low i1)), .val (.int (own_high i1 i2)), .val (.long (own_from j1 j2)), .second, .val (.long (own_to j1 j2)), .second, .val (.ref a3), .val (.int (f5 (own_from j1 j2) (own_to j1 j2) (own_low i1) (own_high i1 i2))), .val (.int (f5 (own_from j1 j2) (own_from j1 j2) (own_low i1) (own_high i1 i2))), .val (.int (f5 (own_to j1 j2) (own_to j1 j2) (own_low i1) (own_high i1 i2))), .val (.int (own_ct i1 i2 j1 j2)), .val (.int (own_fi i1 i2 j1 j2)), .unset] [(.int (1 : Int32))]))
      exact own_here ⟨T17, _, X17, N17, e17, by rw [show (own_ti i1 i2 j1 j2) = (1 : Int32) from by simp only [own_ti, if_pos hc18]]⟩
    · refine own_on (fun _ k => XS.ifYes X17.here hx rfl (pc0 := 159) (pc' := 166) rfl (hb hby at_159) rfl (XT.ll_ne_t hc18) (by decide) (by decide) k) ?_
      show own_Go p.tables e below _ (T17.setTop (mkF m 166 #[.val (.int i1), .val (.int i2), .val (.long j1), .second, .val (.long j2), .second, .val (.int (own_low i1)), .val (.int (own_high i1 i2)), .val (.long (own_from j1 j2)), .second, .val (.long (own_to j1 j2)), .second, .val (.ref a3), .val (.int (f5 (own_from j1 j2) (own_to j1 j2) (own_low i1) (own_high i1 i2))), .val (.int (f5 (own_from j1 j2) (own_from j1 j2) (own_low i1) (own_high i1 i2))), .val (.int (f5 (own_to j1 j2) (own_to j1 j2) (own_low i1) (own_high i1 i2))), .val (.int (own_ct i1 i2 j1 j2)), .val (.int (own_fi i1 i2 j1 j2)), .unset] []))
      refine own_on (fun _ k => XT.iconstV X17.here hx rfl (0 : Int32) (hb hby at_166) (by decide) k) ?_
      show own_Go p.tables e below _ (T17.setTop (mkF m 167 #[.val (.int i1), .val (.int i2), .val (.long j1), .second, .val (.long j2), .second, .val (.int (own_low i1)), .val (.int (own_high i1 i2)), .val (.long (own_from j1 j2)), .second, .val (.long (own_to j1 j2)), .second, .val (.ref a3), .val (.int (f5 (own_from j1 j2) (own_to j1 j2) (own_low i1) (own_high i1 i2))), .val (.int (f5 (own_from j1 j2) (own_from j1 j2) (own_low i1) (own_high i1 i2))), .val (.int (f5 (own_to j1 j2) (own_to j1 j2) (own_low i1) (own_high i1 i2))), .val (.int (own_ct i1 i2 j1 j2)), .val (.int (own_fi i1 i2 j1 j2)), .unset] [(.int (0 : Int32))]))
      exact own_here ⟨T17, _, X17, N17, e17, by rw [show (own_ti i1 i2 j1 j2) = (0 : Int32) from by simp only [own_ti, if_neg hc18]]⟩
  refine own_go st16 ?_
  show own_Fin p.tables e below _ (T16.setTop (mkF m 167 #[.val (.int i1), .val (.int i2), .val (.long j1), .second, .val (.long j2), .second, .val (.int (own_low i1)), .val (.int (own_high i1 i2)), .val (.long (own_from j1 j2)), .second, .val (.long (own_to j1 j2)), .second, .val (.ref a3), .val (.int (f5 (own_from j1 j2) (own_to j1 j2) (own_low i1) (own_high i1 i2))), .val (.int (f5 (own_from j1 j2) (own_from j1 j2) (own_low i1) (own_high i1 i2))), .val (.int (f5 (own_to j1 j2) (own_to j1 j2) (own_low i1) (own_high i1 i2))), .val (.int (own_ct i1 i2 j1 j2)), .val (.int (own_fi i1 i2 j1 j2)), .unset] [(.int (own_ti i1 i2 j1 j2))]))
  refine own_go (fun _ k => XS.istore X16.here hx rfl (hb hby at_167) rfl (l' := #[.val (.int i1), .val (.int i2), .val (.long j1), .second, .val (.long j2), .second, .val (.int (own_low i1)), .val (.int (own_high i1 i2)), .val (.long (own_from j1 j2)), .second, .val (.long (own_to j1 j2)), .second, .val (.ref a3), .val (.int (f5 (own_from j1 j2) (own_to j1 j2) (own_low i1) (own_high i1 i2))), .val (.int (f5 (own_from j1 j2) (own_from j1 j2) (own_low i1) (own_high i1 i2))), .val (.int (f5 (own_to j1 j2) (own_to j1 j2) (own_low i1) (own_high i1 i2))), .val (.int (own_ct i1 i2 j1 j2)), .val (.int (own_fi i1 i2 j1 j2)), .val (.int (own_ti i1 i2 j1 j2))]) rfl k) ?_
  show own_Fin p.tables e below _ (T16.setTop (mkF m 169 #[.val (.int i1), .val (.int i2), .val (.long j1), .second, .val (.long j2), .second, .val (.int (own_low i1)), .val (.int (own_high i1 i2)), .val (.long (own_from j1 j2)), .second, .val (.long (own_to j1 j2)), .second, .val (.ref a3), .val (.int (f5 (own_from j1 j2) (own_to j1 j2) (own_low i1) (own_high i1 i2))), .val (.int (f5 (own_from j1 j2) (own_from j1 j2) (own_low i1) (own_high i1 i2))), .val (.int (f5 (own_to j1 j2) (own_to j1 j2) (own_low i1) (own_high i1 i2))), .val (.int (own_ct i1 i2 j1 j2)), .val (.int (own_fi i1 i2 j1 j2)), .val (.int (own_ti i1 i2 j1 j2))] []))
  refine own_go (fun _ k => XS.iload X16.here hx rfl (hb hby at_169) rfl k) ?_
  show own_Fin p.tables e below _ (T16.setTop (mkF m 171 #[.val (.int i1), .val (.int i2), .val (.long j1), .second, .val (.long j2), .second, .val (.int (own_low i1)), .val (.int (own_high i1 i2)), .val (.long (own_from j1 j2)), .second, .val (.long (own_to j1 j2)), .second, .val (.ref a3), .val (.int (f5 (own_from j1 j2) (own_to j1 j2) (own_low i1) (own_high i1 i2))), .val (.int (f5 (own_from j1 j2) (own_from j1 j2) (own_low i1) (own_high i1 i2))), .val (.int (f5 (own_to j1 j2) (own_to j1 j2) (own_low i1) (own_high i1 i2))), .val (.int (own_ct i1 i2 j1 j2)), .val (.int (own_fi i1 i2 j1 j2)), .val (.int (own_ti i1 i2 j1 j2))] [(.int (f5 (own_from j1 j2) (own_to j1 j2) (own_low i1) (own_high i1 i2)))]))
  refine own_go (fun _ k => XS.iload X16.here hx rfl (hb hby at_171) rfl k) ?_
  show own_Fin p.tables e below _ (T16.setTop (mkF m 173 #[.val (.int i1), .val (.int i2), .val (.long j1), .second, .val (.long j2), .second, .val (.int (own_low i1)), .val (.int (own_high i1 i2)), .val (.long (own_from j1 j2)), .second, .val (.long (own_to j1 j2)), .second, .val (.ref a3), .val (.int (f5 (own_from j1 j2) (own_to j1 j2) (own_low i1) (own_high i1 i2))), .val (.int (f5 (own_from j1 j2) (own_from j1 j2) (own_low i1) (own_high i1 i2))), .val (.int (f5 (own_to j1 j2) (own_to j1 j2) (own_low i1) (own_high i1 i2))), .val (.int (own_ct i1 i2 j1 j2)), .val (.int (own_fi i1 i2 j1 j2)), .val (.int (own_ti i1 i2 j1 j2))] [(.int (own_ct i1 i2 j1 j2)), (.int (f5 (own_from j1 j2) (own_to j1 j2) (own_low i1) (own_high i1 i2)))]))
  by_cases hc19 : (f5 (own_from j1 j2) (own_to j1 j2) (own_low i1) (own_high i1 i2)) = (own_ct i1 i2 j1 j2)
  · refine own_go (fun _ k => XS.icmpNo X16.here hx rfl (hb hby at_173) rfl (XT.ii_ne_f hc19) k) ?_
    show own_Fin p.tables e below _ (T16.setTop (mkF m 176 #[.val (.int i1), .val (.int i2), .val (.long j1), .second, .val (.long j2), .second, .val (.int (own_low i1)), .val (.int (own_high i1 i2)), .val (.long (own_from j1 j2)), .second, .val (.long (own_to j1 j2)), .second, .val (.ref a3), .val (.int (f5 (own_from j1 j2) (own_to j1 j2) (own_low i1) (own_high i1 i2))), .val (.int (f5 (own_from j1 j2) (own_from j1 j2) (own_low i1) (own_high i1 i2))), .val (.int (f5 (own_to j1 j2) (own_to j1 j2) (own_low i1) (own_high i1 i2))), .val (.int (own_ct i1 i2 j1 j2)), .val (.int (own_fi i1 i2 j1 j2)), .val (.int (own_ti i1 i2 j1 j2))] []))
    refine own_go (fun _ k => XS.iload X16.here hx rfl (hb hby at_176) rfl k) ?_
    show own_Fin p.tables e below _ (T16.setTop (mkF m 178 #[.val (.int i1), .val (.int i2), .val (.long j1), .second, .val (.long j2), .second, .val (.int (own_low i1)), .val (.int (own_high i1 i2)), .val (.long (own_from j1 j2)), .second, .val (.long (own_to j1 j2)), .second, .val (.ref a3), .val (.int (f5 (own_from j1 j2) (own_to j1 j2) (own_low i1) (own_high i1 i2))), .val (.int (f5 (own_from j1 j2) (own_from j1 j2) (own_low i1) (own_high i1 i2))), .val (.int (f5 (own_to j1 j2) (own_to j1 j2) (own_low i1) (own_high i1 i2))), .val (.int (own_ct i1 i2 j1 j2)), .val (.int (own_fi i1 i2 j1 j2)), .val (.int (own_ti i1 i2 j1 j2))] [(.int (f5 (own_from j1 j2) (own_from j1 j2) (own_low i1) (own_high i1 i2)))]))
    refine own_go (fun _ k => XS.iload X16.here hx rfl (hb hby at_178) rfl k) ?_
    show own_Fin p.tables e below _ (T16.setTop (mkF m 180 #[.val (.int i1), .val (.int i2), .val (.long j1), .second, .val (.long j2), .second, .val (.int (own_low i1)), .val (.int (own_high i1 i2)), .val (.long (own_from j1 j2)), .second, .val (.long (own_to j1 j2)), .second, .val (.ref a3), .val (.int (f5 (own_from j1 j2) (own_to j1 j2) (own_low i1) (own_high i1 i2))), .val (.int (f5 (own_from j1 j2) (own_from j1 j2) (own_low i1) (own_high i1 i2))), .val (.int (f5 (own_to j1 j2) (own_to j1 j2) (own_low i1) (own_high i1 i2))), .val (.int (own_ct i1 i2 j1 j2)), .val (.int (own_fi i1 i2 j1 j2)), .val (.int (own_ti i1 i2 j1 j2))] [(.int (own_fi i1 i2 j1 j2)), (.int (f5 (own_from j1 j2) (own_from j1 j2) (own_low i1) (own_high i1 i2)))]))
    by_cases hc20 : (f5 (own_from j1 j2) (own_from j1 j2) (own_low i1) (own_high i1 i2)) = (own_fi i1 i2 j1 j2)
    · refine own_go (fun _ k => XS.icmpNo X16.here hx rfl (hb hby at_180) rfl (XT.ii_ne_f hc20) k) ?_
      show own_Fin p.tables e below _ (T16.setTop (mkF m 183 #[.val (.int i1), .val (.int i2), .val (.long j1), .second, .val (.long j2), .second, .val (.int (own_low i1)), .val (.int (own_high i1 i2)), .val (.long (own_from j1 j2)), .second, .val (.long (own_to j1 j2)), .second, .val (.ref a3), .val (.int (f5 (own_from j1 j2) (own_to j1 j2) (own_low i1) (own_high i1 i2))), .val (.int (f5 (own_from j1 j2) (own_from j1 j2) (own_low i1) (own_high i1 i2))), .val (.int (f5 (own_to j1 j2) (own_to j1 j2) (own_low i1) (own_high i1 i2))), .val (.int (own_ct i1 i2 j1 j2)), .val (.int (own_fi i1 i2 j1 j2)), .val (.int (own_ti i1 i2 j1 j2))] []))
      refine own_go (fun _ k => XS.iload X16.here hx rfl (hb hby at_183) rfl k) ?_
      show own_Fin p.tables e below _ (T16.setTop (mkF m 185 #[.val (.int i1), .val (.int i2), .val (.long j1), .second, .val (.long j2), .second, .val (.int (own_low i1)), .val (.int (own_high i1 i2)), .val (.long (own_from j1 j2)), .second, .val (.long (own_to j1 j2)), .second, .val (.ref a3), .val (.int (f5 (own_from j1 j2) (own_to j1 j2) (own_low i1) (own_high i1 i2))), .val (.int (f5 (own_from j1 j2) (own_from j1 j2) (own_low i1) (own_high i1 i2))), .val (.int (f5 (own_to j1 j2) (own_to j1 j2) (own_low i1) (own_high i1 i2))), .val (.int (own_ct i1 i2 j1 j2)), .val (.int (own_fi i1 i2 j1 j2)), .val (.int (own_ti i1 i2 j1 j2))] [(.int (f5 (own_to j1 j2) (own_to j1 j2) (own_low i1) (own_high i1 i2)))]))
      refine own_go (fun _ k => XS.iload X16.here hx rfl (hb hby at_185) rfl k) ?_
      show own_Fin p.tables e below _ (T16.setTop (mkF m 187 #[.val (.int i1), .val (.int i2), .val (.long j1), .second, .val (.long j2), .second, .val (.int (own_low i1)), .val (.int (own_high i1 i2)), .val (.long (own_from j1 j2)), .second, .val (.long (own_to j1 j2)), .second, .val (.ref a3), .val (.int (f5 (own_from j1 j2) (own_to j1 j2) (own_low i1) (own_high i1 i2))), .val (.int (f5 (own_from j1 j2) (own_from j1 j2) (own_low i1) (own_high i1 i2))), .val (.int (f5 (own_to j1 j2) (own_to j1 j2) (own_low i1) (own_high i1 i2))), .val (.int (own_ct i1 i2 j1 j2)), .val (.int (own_fi i1 i2 j1 j2)), .val (.int (own_ti i1 i2 j1 j2))] [(.int (own_ti i1 i2 j1 j2)), (.int (f5 (own_to j1 j2) (own_to j1 j2) (own_low i1) (own_high i1 i2)))]))
      by_cases hc21 : (f5 (own_to j1 j2) (own_to j1 j2) (own_low i1) (own_high i1 i2)) = (own_ti i1 i2 j1 j2)
      · refine own_go (fun _ k => XS.icmpNo X16.here hx rfl (hb hby at_187) rfl (XT.ii_ne_f hc21) k) ?_
        show own_Fin p.tables e below _ (T16.setTop (mkF m 190 #[.val (.int i1), .val (.int i2), .val (.long j1), .second, .val (.long j2), .second, .val (.int (own_low i1)), .val (.int (own_high i1 i2)), .val (.long (own_from j1 j2)), .second, .val (.long (own_to j1 j2)), .second, .val (.ref a3), .val (.int (f5 (own_from j1 j2) (own_to j1 j2) (own_low i1) (own_high i1 i2))), .val (.int (f5 (own_from j1 j2) (own_from j1 j2) (own_low i1) (own_high i1 i2))), .val (.int (f5 (own_to j1 j2) (own_to j1 j2) (own_low i1) (own_high i1 i2))), .val (.int (own_ct i1 i2 j1 j2)), .val (.int (own_fi i1 i2 j1 j2)), .val (.int (own_ti i1 i2 j1 j2))] []))
        refine own_go (fun _ k => XS.iload X16.here hx rfl (hb hby at_190) rfl k) ?_
        show own_Fin p.tables e below _ (T16.setTop (mkF m 192 #[.val (.int i1), .val (.int i2), .val (.long j1), .second, .val (.long j2), .second, .val (.int (own_low i1)), .val (.int (own_high i1 i2)), .val (.long (own_from j1 j2)), .second, .val (.long (own_to j1 j2)), .second, .val (.ref a3), .val (.int (f5 (own_from j1 j2) (own_to j1 j2) (own_low i1) (own_high i1 i2))), .val (.int (f5 (own_from j1 j2) (own_from j1 j2) (own_low i1) (own_high i1 i2))), .val (.int (f5 (own_to j1 j2) (own_to j1 j2) (own_low i1) (own_high i1 i2))), .val (.int (own_ct i1 i2 j1 j2)), .val (.int (own_fi i1 i2 j1 j2)), .val (.int (own_ti i1 i2 j1 j2))] [(.int (f5 (own_from j1 j2) (own_to j1 j2) (own_low i1) (own_high i1 i2)))]))
        obtain ⟨_, ⟨T22, L22, X22, N22, e22, rfl⟩, st22⟩ : own_Go p.tables e below (fun t => ∃ T' L', Stand p l e room_1 s m #[(.int i1), (.int i2), (.long j1), (.long j2)] below meth c T' L' 1 2 ∧ Fr n0 L' ∧ T'.heap = T4.heap ∧ t = T'.setTop (mkF m 207 #[.val (.int i1), .val (.int i2), .val (.long j1), .second, .val (.long j2), .second, .val (.int (own_low i1)), .val (.int (own_high i1 i2)), .val (.long (own_from j1 j2)), .second, .val (.long (own_to j1 j2)), .second, .val (.ref a3), .val (.int (f5 (own_from j1 j2) (own_to j1 j2) (own_low i1) (own_high i1 i2))), .val (.int (f5 (own_from j1 j2) (own_from j1 j2) (own_low i1) (own_high i1 i2))), .val (.int (f5 (own_to j1 j2) (own_to j1 j2) (own_low i1) (own_high i1 i2))), .val (.int (own_ct i1 i2 j1 j2)), .val (.int (own_fi i1 i2 j1 j2)), .val (.int (own_ti i1 i2 j1 j2))] [(.int (own_both i1 i2 j1 j2)), (.int (f5 (own_from j1 j2) (own_to j1 j2) (own_low i1) (own_high i1 i2)))])) (T16.setTop (mkF m 192 #[.val (.int i1), .val (.int i2), .val (.long j1), .second, .val (.long j2), .second, .val (.int (own_low i1)), .val (.int (own_high i1 i2)), .val (.long (own_from j1 j2)), .second, .val (.long (own_to j1 j2)), .second, .val (.ref a3), .val (.int (f5 (own_from j1 j2) (own_to j1 j2) (own_low i1) (own_high i1 i2))), .val (.int (f5 (own_from j1 j2) (own_from j1 j2) (own_low i1) (own_high i1 i2))), .val (.int (f5 (own_to j1 j2) (own_to j1 j2) (own_low i1) (own_high i1 i2))), .val (.int (own_ct i1 i2 j1 j2)), .val (.int (own_fi i1 i2 j1 j2)), .val (.int (own_ti i1 i2 j1 j2))] [(.int (f5 (own_from j1 j2) (own_to j1 j2) (own_low i1) (own_high i1 i2)))])) := by
          refine own_on (fun _ k => XS.iload X16.here hx rfl (hb hby at_192) rfl k) ?_
          show own_Go p.tables e below _ (T16.setTop (mkF m 194 #[.val (.int i1), .val (.int i2), .val (.long j1), .second, .val (.long j2), .second, .val (.int (own_low i1)), .val (.int (own_high i1 i2)), .val (.long (own_from j1 j2)), .second, .val (.long (own_to j1 j2)), .second, .val (.ref a3), .val (.int (f5 (own_from j1 j2) (own_to j1 j2) (own_low i1) (own_high i1 i2))), .val (.int (f5 (own_from j1 j2) (own_from j1 j2) (own_low i1) (own_high i1 i2))), .val (.int (f5 (own_to j1 j2) (own_to j1 j2) (own_low i1) (own_high i1 i2))), .val (.int (own_ct i1 i2 j1 j2)), .val (.int (own_fi i1 i2 j1 j2)), .val (.int (own_ti i1 i2 j1 j2))] [(.int (f5 (own_from j1 j2) (own_from j1 j2) (own_low i1) (own_high i1 i2))), (.int (f5 (own_from j1 j2) (own_to j1 j2) (own_low i1) (own_high i1 i2)))]))
          by_cases hc23 : (f5 (own_from j1 j2) (own_from j1 j2) (own_low i1) (own_high i1 i2)) = (0 : Int32)
          · refine own_on (fun _ k => XS.ifYes X16.here hx rfl (pc0 := 194) (pc' := 206) rfl (hb hby at_194) rfl (XT.i0_eq_t hc23) (by decide) (by decide) k) ?_
            show own_Go p.tables e below _ (T16.setTop (mkF m 206 #[.val (.int i1), .val (.int i2), .val (.long j1), .second, .val (.long j2), .second, .val (.int (own_low i1)), .val (.int (own_high i1 i2)), .val (.long (own_from j1 j2)), .second, .val (.long (own_to j1 j2)), .second, .val (.ref a3), .val (.int (f5 (own_from j1 j2) (own_to j1 j2) (own_low i1) (own_high i1 i2))), .val (.int (f5 (own_from j1 j2) (own_from j1 j2) (own_low i1) (own_high i1 i2))), .val (.int (f5 (own_to j1 j2) (own_to j1 j2) (own_low i1) (own_high i1 i2))), .val (.int (own_ct i1 i2 j1 j2)), .val (.int (own_fi i1 i2 j1 j2)), .val (.int (own_ti i1 i2 j1 j2))] [(.int (f5 (own_from j1 j2) (own_to j1 j2) (own_low i1) (own_high i1 i2)))]))
            refine own_on (fun _ k => XT.iconstV X16.here hx rfl (0 : Int32) (hb hby at_206) (by decide) k) ?_
            show own_Go p.tables e below _ (T16.setTop (mkF m 207 #[.val (.int i1), .val (.int i2), .val (.long j1), .second, .val (.long j2), .second, .val (.int (own_low i1)), .val (.int (own_high i1 i2)), .val (.long (own_from j1 j2)), .second, .val (.long (own_to j1 j2)), .second, .val (.ref a3), .val (.int (f5 (own_from j1 j2) (own_to j1 j2) (own_low i1) (own_high i1 i2))), .val (.int (f5 (own_from j1 j2) (own_from j1 j2) (own_low i1) (own_high i1 i2))), .val (.int (f5 (own_to j1 j2) (own_to j1 j2) (own_low i1) (own_high i1 i2))), .val (.int (own_ct i1 i2 j1 j2)), .val (.int (own_fi i1 i2 j1 j2)), .val (.int (own_ti i1 i2 j1 j2))] [(.int (0 : Int32)), (.int (f5 (own_from j1 j2) (own_to j1 j2) (own_low i1) (own_high i1 i2)))]))
            exact own_here ⟨T16, _, X16, N16, e16, by rw [show (own_both i1 i2 j1 j2) = (0 : Int32) from by simp only [own_both, if_pos hc23]]⟩
          · refine own_on (fun _ k => XS.ifNo X16.here hx rfl (hb hby at_194) rfl (XT.i0_eq_f hc23) k) ?_
            show own_Go p.tables e below _ (T16.setTop (mkF m 197 #[.val (.int i1), .val (.int i2), .val (.long j1), .second, .val (.long j2), .second, .val (.int (own_low i1)), .val (.int (own_high i1 i2)), .val (.long (own_from j1 j2)), .second, .val (.long (own_to j1 j2)), .second, .val (.ref a3), .val (.int (f5 (own_from j1 j2) (own_to j1 j2) (own_low i1) (own_high i1 i2))), .val (.int (f5 (own_from j1 j2) (own_from j1 j2) (own_low i1) (own_high i1 i2))), .val (.int (f5 (own_to j1 j2) (own_to j1 j2) (own_low i1) (own_high i1 i2))), .val (.int (own_ct i1 i2 j1 j2)), .val (.int (own_fi i1 i2 j1 j2)), .val (.int (own_ti i1 i2 j1 j2))] [(.int (f5 (own_from j1 j2) (own_to j1 j2) (own_low i1) (own_high i1 i2)))]))
            refine own_on (fun _ k => XS.iload X16.here hx rfl (hb hby at_197) rfl k) ?_
            show own_Go p.tables e below _ (T16.setTop (mkF m 199 #[.val (.int i1), .val (.int i2), .val (.long j1), .second, .val (.long j2), .second, .val (.int (own_low i1)), .val (.int (own_high i1 i2)), .val (.long (own_from j1 j2)), .second, .val (.long (own_to j1 j2)), .second, .val (.ref a3), .val (.int (f5 (own_from j1 j2) (own_to j1 j2) (own_low i1) (own_high i1 i2))), .val (.int (f5 (own_from j1 j2) (own_from j1 j2) (own_low i1) (own_high i1 i2))), .val (.int (f5 (own_to j1 j2) (own_to j1 j2) (own_low i1) (own_high i1 i2))), .val (.int (own_ct i1 i2 j1 j2)), .val (.int (own_fi i1 i2 j1 j2)), .val (.int (own_ti i1 i2 j1 j2))] [(.int (f5 (own_to j1 j2) (own_to j1 j2) (own_low i1) (own_high i1 i2))), (.int (f5 (own_from j1 j2) (own_to j1 j2) (own_low i1) (own_high i1 i2)))]))
            by_cases hc24 : (f5 (own_to j1 j2) (own_to j1 j2) (own_low i1) (own_high i1 i2)) = (0 : Int32)
            · refine own_on (fun _ k => XS.ifYes X16.here hx rfl (pc0 := 199) (pc' := 206) rfl (hb hby at_199) rfl (XT.i0_eq_t hc24) (by decide) (by decide) k) ?_
              show own_Go p.tables e below _ (T16.setTop (mkF m 206 #[.val (.int i1), .val (.int i2), .val (.long j1), .second, .val (.long j2), .second, .val (.int (own_low i1)), .val (.int (own_high i1 i2)), .val (.long (own_from j1 j2)), .second, .val (.long (own_to j1 j2)), .second, .val (.ref a3), .val (.int (f5 (own_from j1 j2) (own_to j1 j2) (own_low i1) (own_high i1 i2))), .val (.int (f5 (own_from j1 j2) (own_from j1 j2) (own_low i1) (own_high i1 i2))), .val (.int (f5 (own_to j1 j2) (own_to j1 j2) (own_low i1) (own_high i1 i2))), .val (.int (own_ct i1 i2 j1 j2)), .val (.int (own_fi i1 i2 j1 j2)), .val (.int (own_ti i1 i2 j1 j2))] [(.int (f5 (own_from j1 j2) (own_to j1 j2) (own_low i1) (own_high i1 i2)))]))
              refine own_on (fun _ k => XT.iconstV X16.here hx rfl (0 : Int32) (hb hby at_206) (by decide) k) ?_
              show own_Go p.tables e below _ (T16.setTop (mkF m 207 #[.val (.int i1), .val (.int i2), .val (.long j1), .second, .val (.long j2), .second, .val (.int (own_low i1)), .val (.int (own_high i1 i2)), .val (.long (own_from j1 j2)), .second, .val (.long (own_to j1 j2)), .second, .val (.ref a3), .val (.int (f5 (own_from j1 j2) (own_to j1 j2) (own_low i1) (own_high i1 i2))), .val (.int (f5 (own_from j1 j2) (own_from j1 j2) (own_low i1) (own_high i1 i2))), .val (.int (f5 (own_to j1 j2) (own_to j1 j2) (own_low i1) (own_high i1 i2))), .val (.int (own_ct i1 i2 j1 j2)), .val (.int (own_fi i1 i2 j1 j2)), .val (.int (own_ti i1 i2 j1 j2))] [(.int (0 : Int32)), (.int (f5 (own_from j1 j2) (own_to j1 j2) (own_low i1) (own_high i1 i2)))]))
              exact own_here ⟨T16, _, X16, N16, e16, by rw [show (own_both i1 i2 j1 j2) = (0 : Int32) from by simp only [own_both, if_neg hc23, if_pos hc24]]⟩
            · refine own_on (fun _ k => XS.ifNo X16.here hx rfl (hb hby at_199) rfl (XT.i0_eq_f hc24) k) ?_
              show own_Go p.tables e below _ (T16.setTop (mkF m 202 #[.val (.int i1), .val (.int i2), .val (.long j1), .second, .val (.long j2), .second, .val (.int (own_low i1)), .val (.int (own_high i1 i2)), .val (.long (own_from j1 j2)), .second, .val (.long (own_to j1 j2)), .second, .val (.ref a3), .val (.int (f5 (own_from j1 j2) (own_to j1 j2) (own_low i1) (own_high i1 i2))), .val (.int (f5 (own_from j1 j2) (own_from j1 j2) (own_low i1) (own_high i1 i2))), .val (.int (f5 (own_to j1 j2) (own_to j1 j2) (own_low i1) (own_high i1 i2))), .val (.int (own_ct i1 i2 j1 j2)), .val (.int (own_fi i1 i2 j1 j2)), .val (.int (own_ti i1 i2 j1 j2))] [(.int (f5 (own_from j1 j2) (own_to j1 j2) (own_low i1) (own_high i1 i2)))]))
              refine own_on (fun _ k => XT.iconstV X16.here hx rfl (1 : Int32) (hb hby at_202) (by decide) k) ?_
              show own_Go p.tables e below _ (T16.setTop (mkF m 203 #[.val (.int i1), .val (.int i2), .val (.long j1), .second, .val (.long j2), .second, .val (.int (own_low i1)), .val (.int (own_high i1 i2)), .val (.long (own_from j1 j2)), .second, .val (.long (own_to j1 j2)), .second, .val (.ref a3), .val (.int (f5 (own_from j1 j2) (own_to j1 j2) (own_low i1) (own_high i1 i2))), .val (.int (f5 (own_from j1 j2) (own_from j1 j2) (own_low i1) (own_high i1 i2))), .val (.int (f5 (own_to j1 j2) (own_to j1 j2) (own_low i1) (own_high i1 i2))), .val (.int (own_ct i1 i2 j1 j2)), .val (.int (own_fi i1 i2 j1 j2)), .val (.int (own_ti i1 i2 j1 j2))] [(.int (1 : Int32)), (.int (f5 (own_from j1 j2) (own_to j1 j2) (own_low i1) (own_high i1 i2)))]))
              refine own_on (fun _ k => XS.goto X16.here hx rfl (pc0 := 203) (pc' := 207) rfl (hb hby at_203) (by decide) (by decide) k) ?_
              show own_Go p.tables e below _ (T16.setTop (mkF m 207 #[.val (.int i1), .val (.int i2), .val (.long j1), .second, .val (.long j2), .second, .val (.int (own_low i1)), .val (.int (own_high i1 i2)), .val (.long (own_from j1 j2)), .second, .val (.long (own_to j1 j2)), .second, .val (.ref a3), .val (.int (f5 (own_from j1 j2) (own_to j1 j2) (own_low i1) (own_high i1 i2))), .val (.int (f5 (own_from j1 j2) (own_from j1 j2) (own_low i1) (own_high i1 i2))), .val (.int (f5 (own_to j1 j2) (own_to j1 j2) (own_low i1) (own_high i1 i2))), .val (.int (own_ct i1 i2 j1 j2)), .val (.int (own_fi i1 i2 j1 j2)), .val (.int (own_ti i1 i2 j1 j2))] [(.int (1 : Int32)), (.int (f5 (own_from j1 j2) (own_to j1 j2) (own_low i1) (own_high i1 i2)))]))
              exact own_here ⟨T16, _, X16, N16, e16, by rw [show (own_both i1 i2 j1 j2) = (1 : Int32) from by simp only [own_both, if_neg hc23, if_neg hc24]]⟩
        refine own_go st22 ?_
        show own_Fin p.tables e below _ (T22.setTop (mkF m 207 #[.val (.int i1), .val (.int i2), .val (.long j1), .second, .val (.long j2), .second, .val (.int (own_low i1)), .val (.int (own_high i1 i2)), .val (.long (own_from j1 j2)), .second, .val (.long (own_to j1 j2)), .second, .val (.ref a3), .val (.int (f5 (own_from j1 j2) (own_to j1 j2) (own_low i1) (own_high i1 i2))), .val (.int (f5 (own_from j1 j2) (own_from j1 j2) (own_low i1) (own_high i1 i2))), .val (.int (f5 (own_to j1 j2) (own_to j1 j2) (own_low i1) (own_high i1 i2))), .val (.int (own_ct i1 i2 j1 j2)), .val (.int (own_fi i1 i2 j1 j2)), .val (.int (own_ti i1 i2 j1 j2))] [(.int (own_both i1 i2 j1 j2)), (.int (f5 (own_from j1 j2) (own_to j1 j2) (own_low i1) (own_high i1 i2)))]))
        by_cases hc25 : (f5 (own_from j1 j2) (own_to j1 j2) (own_low i1) (own_high i1 i2)) = (own_both i1 i2 j1 j2)
        · refine own_go (fun _ k => XS.icmpNo X22.here hx rfl (hb hby at_207) rfl (XT.ii_ne_f hc25) k) ?_
          show own_Fin p.tables e below _ (T22.setTop (mkF m 210 #[.val (.int i1), .val (.int i2), .val (.long j1), .second, .val (.long j2), .second, .val (.int (own_low i1)), .val (.int (own_high i1 i2)), .val (.long (own_from j1 j2)), .second, .val (.long (own_to j1 j2)), .second, .val (.ref a3), .val (.int (f5 (own_from j1 j2) (own_to j1 j2) (own_low i1) (own_high i1 i2))), .val (.int (f5 (own_from j1 j2) (own_from j1 j2) (own_low i1) (own_high i1 i2))), .val (.int (f5 (own_to j1 j2) (own_to j1 j2) (own_low i1) (own_high i1 i2))), .val (.int (own_ct i1 i2 j1 j2)), .val (.int (own_fi i1 i2 j1 j2)), .val (.int (own_ti i1 i2 j1 j2))] []))
          refine own_go (fun _ k => XT.iconstV X22.here hx rfl (1 : Int32) (hb hby at_210) (by decide) k) ?_
          show own_Fin p.tables e below _ (T22.setTop (mkF m 211 #[.val (.int i1), .val (.int i2), .val (.long j1), .second, .val (.long j2), .second, .val (.int (own_low i1)), .val (.int (own_high i1 i2)), .val (.long (own_from j1 j2)), .second, .val (.long (own_to j1 j2)), .second, .val (.ref a3), .val (.int (f5 (own_from j1 j2) (own_to j1 j2) (own_low i1) (own_high i1 i2))), .val (.int (f5 (own_from j1 j2) (own_from j1 j2) (own_low i1) (own_high i1 i2))), .val (.int (f5 (own_to j1 j2) (own_to j1 j2) (own_low i1) (own_high i1 i2))), .val (.int (own_ct i1 i2 j1 j2)), .val (.int (own_fi i1 i2 j1 j2)), .val (.int (own_ti i1 i2 j1 j2))] [(.int (1 : Int32))]))
          refine own_go (fun _ k => XS.goto X22.here hx rfl (pc0 := 211) (pc' := 215) rfl (hb hby at_211) (by decide) (by decide) k) ?_
          show own_Fin p.tables e below _ (T22.setTop (mkF m 215 #[.val (.int i1), .val (.int i2), .val (.long j1), .second, .val (.long j2), .second, .val (.int (own_low i1)), .val (.int (own_high i1 i2)), .val (.long (own_from j1 j2)), .second, .val (.long (own_to j1 j2)), .second, .val (.ref a3), .val (.int (f5 (own_from j1 j2) (own_to j1 j2) (own_low i1) (own_high i1 i2))), .val (.int (f5 (own_from j1 j2) (own_from j1 j2) (own_low i1) (own_high i1 i2))), .val (.int (f5 (own_to j1 j2) (own_to j1 j2) (own_low i1) (own_high i1 i2))), .val (.int (own_ct i1 i2 j1 j2)), .val (.int (own_fi i1 i2 j1 j2)), .val (.int (own_ti i1 i2 j1 j2))] [(.int (1 : Int32))]))
          refine own_retN X22 hx hlk (t := .boolean) hret (by simp) (hb hby at_215) ?_ (by decide) (by decide)
          exact ⟨by rw [show f0 i1 i2 j1 j2 = (1 : Int32) from by simp only [f0, if_pos hc19, if_pos hc20, if_pos hc21, if_pos hc25]] <;> rfl, N22⟩
        · refine own_go (fun _ k => XS.icmpYes X22.here hx rfl (pc0 := 207) (pc' := 214) rfl (hb hby at_207) rfl (XT.ii_ne_t hc25) (by decide) (by decide) k) ?_
          show own_Fin p.tables e below _ (T22.setTop (mkF m 214 #[.val (.int i1), .val (.int i2), .val (.long j1), .second, .val (.long j2), .second, .val (.int (own_low i1)), .val (.int (own_high i1 i2)), .val (.long (own_from j1 j2)), .second, .val (.long (own_to j1 j2)), .second, .val (.ref a3), .val (.int (f5 (own_from j1 j2) (own_to j1 j2) (own_low i1) (own_high i1 i2))), .val (.int (f5 (own_from j1 j2) (own_from j1 j2) (own_low i1) (own_high i1 i2))), .val (.int (f5 (own_to j1 j2) (own_to j1 j2) (own_low i1) (own_high i1 i2))), .val (.int (own_ct i1 i2 j1 j2)), .val (.int (own_fi i1 i2 j1 j2)), .val (.int (own_ti i1 i2 j1 j2))] []))
          refine own_go (fun _ k => XT.iconstV X22.here hx rfl (0 : Int32) (hb hby at_214) (by decide) k) ?_
          show own_Fin p.tables e below _ (T22.setTop (mkF m 215 #[.val (.int i1), .val (.int i2), .val (.long j1), .second, .val (.long j2), .second, .val (.int (own_low i1)), .val (.int (own_high i1 i2)), .val (.long (own_from j1 j2)), .second, .val (.long (own_to j1 j2)), .second, .val (.ref a3), .val (.int (f5 (own_from j1 j2) (own_to j1 j2) (own_low i1) (own_high i1 i2))), .val (.int (f5 (own_from j1 j2) (own_from j1 j2) (own_low i1) (own_high i1 i2))), .val (.int (f5 (own_to j1 j2) (own_to j1 j2) (own_low i1) (own_high i1 i2))), .val (.int (own_ct i1 i2 j1 j2)), .val (.int (own_fi i1 i2 j1 j2)), .val (.int (own_ti i1 i2 j1 j2))] [(.int (0 : Int32))]))
          refine own_retN X22 hx hlk (t := .boolean) hret (by simp) (hb hby at_215) ?_ (by decide) (by decide)
          exact ⟨by rw [show f0 i1 i2 j1 j2 = (0 : Int32) from by simp only [f0, if_pos hc19, if_pos hc20, if_pos hc21, if_neg hc25]] <;> rfl, N22⟩
      · refine own_go (fun _ k => XS.icmpYes X16.here hx rfl (pc0 := 187) (pc' := 214) rfl (hb hby at_187) rfl (XT.ii_ne_t hc21) (by decide) (by decide) k) ?_
        show own_Fin p.tables e below _ (T16.setTop (mkF m 214 #[.val (.int i1), .val (.int i2), .val (.long j1), .second, .val (.long j2), .second, .val (.int (own_low i1)), .val (.int (own_high i1 i2)), .val (.long (own_from j1 j2)), .second, .val (.long (own_to j1 j2)), .second, .val (.ref a3), .val (.int (f5 (own_from j1 j2) (own_to j1 j2) (own_low i1) (own_high i1 i2))), .val (.int (f5 (own_from j1 j2) (own_from j1 j2) (own_low i1) (own_high i1 i2))), .val (.int (f5 (own_to j1 j2) (own_to j1 j2) (own_low i1) (own_high i1 i2))), .val (.int (own_ct i1 i2 j1 j2)), .val (.int (own_fi i1 i2 j1 j2)), .val (.int (own_ti i1 i2 j1 j2))] []))
        refine own_go (fun _ k => XT.iconstV X16.here hx rfl (0 : Int32) (hb hby at_214) (by decide) k) ?_
        show own_Fin p.tables e below _ (T16.setTop (mkF m 215 #[.val (.int i1), .val (.int i2), .val (.long j1), .second, .val (.long j2), .second, .val (.int (own_low i1)), .val (.int (own_high i1 i2)), .val (.long (own_from j1 j2)), .second, .val (.long (own_to j1 j2)), .second, .val (.ref a3), .val (.int (f5 (own_from j1 j2) (own_to j1 j2) (own_low i1) (own_high i1 i2))), .val (.int (f5 (own_from j1 j2) (own_from j1 j2) (own_low i1) (own_high i1 i2))), .val (.int (f5 (own_to j1 j2) (own_to j1 j2) (own_low i1) (own_high i1 i2))), .val (.int (own_ct i1 i2 j1 j2)), .val (.int (own_fi i1 i2 j1 j2)), .val (.int (own_ti i1 i2 j1 j2))] [(.int (0 : Int32))]))
        refine own_retN X16 hx hlk (t := .boolean) hret (by simp) (hb hby at_215) ?_ (by decide) (by decide)
        exact ⟨by rw [show f0 i1 i2 j1 j2 = (0 : Int32) from by simp only [f0, if_pos hc19, if_pos hc20, if_neg hc21]] <;> rfl, N16⟩
    · refine own_go (fun _ k => XS.icmpYes X16.here hx rfl (pc0 := 180) (pc' := 214) rfl (hb hby at_180) rfl (XT.ii_ne_t hc20) (by decide) (by decide) k) ?_
      show own_Fin p.tables e below _ (T16.setTop (mkF m 214 #[.val (.int i1), .val (.int i2), .val (.long j1), .second, .val (.long j2), .second, .val (.int (own_low i1)), .val (.int (own_high i1 i2)), .val (.long (own_from j1 j2)), .second, .val (.long (own_to j1 j2)), .second, .val (.ref a3), .val (.int (f5 (own_from j1 j2) (own_to j1 j2) (own_low i1) (own_high i1 i2))), .val (.int (f5 (own_from j1 j2) (own_from j1 j2) (own_low i1) (own_high i1 i2))), .val (.int (f5 (own_to j1 j2) (own_to j1 j2) (own_low i1) (own_high i1 i2))), .val (.int (own_ct i1 i2 j1 j2)), .val (.int (own_fi i1 i2 j1 j2)), .val (.int (own_ti i1 i2 j1 j2))] []))
      refine own_go (fun _ k => XT.iconstV X16.here hx rfl (0 : Int32) (hb hby at_214) (by decide) k) ?_
      show own_Fin p.tables e below _ (T16.setTop (mkF m 215 #[.val (.int i1), .val (.int i2), .val (.long j1), .second, .val (.long j2), .second, .val (.int (own_low i1)), .val (.int (own_high i1 i2)), .val (.long (own_from j1 j2)), .second, .val (.long (own_to j1 j2)), .second, .val (.ref a3), .val (.int (f5 (own_from j1 j2) (own_to j1 j2) (own_low i1) (own_high i1 i2))), .val (.int (f5 (own_from j1 j2) (own_from j1 j2) (own_low i1) (own_high i1 i2))), .val (.int (f5 (own_to j1 j2) (own_to j1 j2) (own_low i1) (own_high i1 i2))), .val (.int (own_ct i1 i2 j1 j2)), .val (.int (own_fi i1 i2 j1 j2)), .val (.int (own_ti i1 i2 j1 j2))] [(.int (0 : Int32))]))
      refine own_retN X16 hx hlk (t := .boolean) hret (by simp) (hb hby at_215) ?_ (by decide) (by decide)
      exact ⟨by rw [show f0 i1 i2 j1 j2 = (0 : Int32) from by simp only [f0, if_pos hc19, if_neg hc20]] <;> rfl, N16⟩
  · refine own_go (fun _ k => XS.icmpYes X16.here hx rfl (pc0 := 173) (pc' := 214) rfl (hb hby at_173) rfl (XT.ii_ne_t hc19) (by decide) (by decide) k) ?_
    show own_Fin p.tables e below _ (T16.setTop (mkF m 214 #[.val (.int i1), .val (.int i2), .val (.long j1), .second, .val (.long j2), .second, .val (.int (own_low i1)), .val (.int (own_high i1 i2)), .val (.long (own_from j1 j2)), .second, .val (.long (own_to j1 j2)), .second, .val (.ref a3), .val (.int (f5 (own_from j1 j2) (own_to j1 j2) (own_low i1) (own_high i1 i2))), .val (.int (f5 (own_from j1 j2) (own_from j1 j2) (own_low i1) (own_high i1 i2))), .val (.int (f5 (own_to j1 j2) (own_to j1 j2) (own_low i1) (own_high i1 i2))), .val (.int (own_ct i1 i2 j1 j2)), .val (.int (own_fi i1 i2 j1 j2)), .val (.int (own_ti i1 i2 j1 j2))] []))
    refine own_go (fun _ k => XT.iconstV X16.here hx rfl (0 : Int32) (hb hby at_214) (by decide) k) ?_
    show own_Fin p.tables e below _ (T16.setTop (mkF m 215 #[.val (.int i1), .val (.int i2), .val (.long j1), .second, .val (.long j2), .second, .val (.int (own_low i1)), .val (.int (own_high i1 i2)), .val (.long (own_from j1 j2)), .second, .val (.long (own_to j1 j2)), .second, .val (.ref a3), .val (.int (f5 (own_from j1 j2) (own_to j1 j2) (own_low i1) (own_high i1 i2))), .val (.int (f5 (own_from j1 j2) (own_from j1 j2) (own_low i1) (own_high i1 i2))), .val (.int (f5 (own_to j1 j2) (own_to j1 j2) (own_low i1) (own_high i1 i2))), .val (.int (own_ct i1 i2 j1 j2)), .val (.int (own_fi i1 i2 j1 j2)), .val (.int (own_ti i1 i2 j1 j2))] [(.int (0 : Int32))]))
    refine own_retN X16 hx hlk (t := .boolean) hret (by simp) (hb hby at_215) ?_ (by decide) (by decide)
    exact ⟨by rw [show f0 i1 i2 j1 j2 = (0 : Int32) from by simp only [f0, if_neg hc19]] <;> rfl, N16⟩
set_option maxRecDepth 65536 in
set_option maxHeartbeats 40000000 in
theorem comes_1 {Post : Tables → Env → Array Value → State → Outcome → State → Prop} (hpost : ∀ tb e args s v u, (limb_1_1.after args s (.returned v) u = true ∧ limb_1_2.after args s (.returned v) u = true ∧ True) → FrameEnd s (.returned v) u (Jvm.fieldLocs frame_1_writes args s ++ Jvm.arrayLocs frame_1_arrays args s ++ Jvm.staticLocs frame_1_statics s) 16 128 → Post tb e args s (.returned v) u) :
    ArmFor flags0 classFile x code maxLocals ret World_1 tables_1 room_1 Calls_1 rest_1 Pre_1 Post := by
  intro l hfl _ _ p e ha hc hk s m args below hf hA hF happ hP
  obtain ⟨hcalls, hrest, hpre⟩ := hP
  obtain ⟨-, -, -, hnamed, -, -, -, hat⟩ := (Spec.applies_iff hf).mp happ
  obtain ⟨hg, hn⟩ := and_e (Cond.before_iff.mp (show (Jvm.Cond.and given_1 narrow_1).before args s = true from hpre))
  obtain ⟨hcount, hr0⟩ := and_e hg
  obtain ⟨hk0, hr1⟩ := and_e hr0
  obtain ⟨hk1, hr2⟩ := and_e hr1
  obtain ⟨hk2, hr3⟩ := and_e hr2
  obtain ⟨w0, w1, w2, w3, rfl⟩ : ∃ w0 w1 w2 w3 : Value, args = #[w0, w1, w2, w3] := by
    have hs : args.size = 4 := by simpa [Cond.value, given_1] using hcount
    obtain ⟨L⟩ := args
    match L, hs with
    | [w0, w1, w2, w3], _ => exact ⟨w0, w1, w2, w3, rfl⟩
  have hw := fun d (hd : d ∈ tables_1) => atoms_spec (ws := Jvm.Cond.code x code maxLocals ret :: tables_1) hat d (List.mem_cons_of_mem _ hd)
  have hfit : Fit s := fun {y c} hc i hi => by
    obtain ⟨ha, rfl⟩ := Array.getElem?_eq_some_iff.mp hc
    have q := List.all_eq_true.mp ((Array.all_eq_true_iff_forall_mem.mp hF) _ (Array.getElem_mem ha)) i (List.mem_range.mpr hi)
    simpa [Array.getElem?_eq_getElem hi] using q
  obtain ⟨i0, ev0⟩ := is_v hk0
  obtain rfl : w0 = (.int i0) := Option.some.inj ev0
  obtain ⟨i1, ev1⟩ := is_v hk1
  obtain rfl : w1 = (.int i1) := Option.some.inj ev1
  obtain ⟨i2, ev2⟩ := isL_v hk2
  obtain rfl : w2 = (.long i2) := Option.some.inj ev2
  obtain ⟨i3, ev3⟩ := isL_v hr3
  obtain rfl : w3 = (.long i3) := Option.some.inj ev3
  obtain ⟨n, o, h1, h2, h3, _, L, rfl, ⟨hv, N⟩, hq⟩ := rm0 l s _ hw tables_1 i0 i1 i2 i3 s.heap s.heap.size (Nat.le_refl _)  p e ha hc hk s m _ below hf ((Spec.applies_iff_loose hf).mp happ).1 ⟨rfl, State.Warmed39.refl s, rfl⟩ trivial
  rw [own_law] at hv
  subst hv
  refine ⟨n, _, h1, h2, h3, hpost _ _ _ _ _ _ ⟨Cond.after_iff.mpr rfl, Cond.after_iff.mpr (eq_i res_at (Term.int_eval (1)) rfl), trivial⟩ ⟨hq.1, hq.2.1, (hq.2.2.sift fun y hy => Or.inr (N y hy)).mono (by decide) (by decide)⟩⟩
theorem main_1_1 : Claimed_1_1 := comes_1 fun _ _ _ _ _ _ h hF => ⟨h.1, hF⟩
theorem main_1_2 : Claimed_1_2 := comes_1 fun _ _ _ _ _ _ h hF => ⟨h.2.1, hF⟩
end Jvm.Pilot.@@N@@
namespace Jvm.Pilot.@@N@@
open Jvm Jvm.ClassFile Sem Op Lib Jvm.Free Jvm.Stand Jvm.Pilot.@@N@@.Jvm.D
/-! MADE BY PROGRAM (witnessworld.py) out of the Statement's table words and the real class files: 11 classes; the members and pool entries that the words name. The judged class is class 1, her method 2. -/
namespace start1
open Jvm.ClassFile
def u (s : String) : CpInfo := .utf8 (stringToUtf16 s)
/-- a pool by its gaps: so many unusable entries, then the entry; so many at the end -/
def gap : Nat → List CpInfo → List CpInfo
  | 0, r => r
  | n + 1, r => .unusable :: gap n r
def poolList (es : List (Nat × CpInfo)) (last : Nat) : List CpInfo := es.foldr (fun e r => gap e.1 (e.2 :: r)) (gap last [])
def pool (es : List (Nat × CpInfo)) (last : Nat) : Array CpInfo := ⟨poolList es last⟩
def fileOf (pool : Array CpInfo) (this : Nat) (attrs : Array Attribute := #[]) (ms : Array MethodInfo := #[]) (fl : Nat := 33) (sup : Nat := 0) (ifs : Array Nat := #[]) (fds : Array FieldInfo := #[]) : ClassFile where
  minorVersion := 0
  majorVersion := 65
  constantPool := pool
  accessFlags := fl
  thisClass := this
  superClass := sup
  interfaces := ifs
  fields := fds
  methods := ms
  attributes := attrs
def plain (name : String) (sup : Option ClassId) : Class where
  name := name
  kind := .ordinary
  loader := none
  accessFlags := 33
  super := sup
  interfaces := #[]
  cf := none
  fields := #[]
  methods := #[]
  instanceTypes := #[]
  staticTypes := #[]
  resolved := #[]
  callSites := []
  init := .initialized
  statics := none
  mirror := none

def pool0 : Array CpInfo := pool [(5, u "<init>"), (0, u "()V"), (1, .class_ 10), (1, u "java/lang/Object")] 113

def k0c0 : Code := { maxStack := 0, maxLocals := 1, code := object_method_1_code, exceptionTable := #[], attributes := #[] }
def k0m0 : Method := { name := "<init>", desc := "()V", sig := { parameters := [], returnType := none }, accessFlags := 1, code := some k0c0 }
/-- java/lang/Object -/
def k0 : Class := { plain "java/lang/Object" none with
  accessFlags := 33
  interfaces := #[]
  cf := some (fileOf pool0 8 #[] #[{ accessFlags := 1, nameIndex := 5, descriptorIndex := 6, attributes := #[] }] 33 0 #[] #[])
  fields := #[]
  methods := #[k0m0]
  instanceTypes := #[]
  staticTypes := #[]
  resolved := Array.replicate 124 none
  statics := none }

def pool1 : Array CpInfo := pool [(2, .class_ 4), (1, u "java/lang/Object"), (0, u "<init>"), (0, u "()V"), (0, .methodref 8 9), (0, .class_ 10), (0, .nameAndType 11 12), (0, u "java/lang/Math"), (0, u "min"), (0, u "(JJ)J"), (0, .methodref 8 14), (0, .nameAndType 15 12), (0, u "max"), (0, .integer 2147483647), (0, .integer 65535), (0, .integer 65536), (0, .class_ 20), (0, u "com/example/grantline/grantline/eval/EphemeralPorts"), (0, .methodref 19 22), (0, .nameAndType 5 23), (0, u "(II)V"), (0, .methodref 19 25), (0, .nameAndType 26 27), (0, u "holds"), (0, u "(JJ)Z"), (0, .methodref 29 30), (0, .class_ 31), (0, .nameAndType 32 33), (0, u "com/example/grantline/grantline/eval/EphemeralPortsHoldsPinLaw"), (0, u "clamp"), (0, u "(JII)J"), (2, u "law"), (0, u "(IIJJ)Z")] 3

def k1m0 : Method := { name := "<init>", desc := "()V", sig := { parameters := [], returnType := none }, accessFlags := 1, code := none }
def k1c1 : Code := { maxStack := 4, maxLocals := 4, code := method_2_code, exceptionTable := #[], attributes := #[] }
def k1m1 : Method := { name := "clamp", desc := "(JII)J", sig := { parameters := [.long, .int, .int], returnType := some .long }, accessFlags := 10, code := some k1c1 }
def k1c2 : Code := { maxStack := 5, maxLocals := 19, code := code, exceptionTable := #[], attributes := #[] }
def k1m2 : Method := { name := "law", desc := "(IIJJ)Z", sig := { parameters := [.int, .int, .long, .long], returnType := some .boolean }, accessFlags := 9, code := some k1c2 }
/-- com/example/grantline/grantline/eval/EphemeralPortsHoldsPinLaw -/
def k1 : Class := { plain "com/example/grantline/grantline/eval/EphemeralPortsHoldsPinLaw" (some 0) with
  accessFlags := 49
  interfaces := #[]
  cf := some (fileOf pool1 29 #[] #[{ accessFlags := 1, nameIndex := 5, descriptorIndex := 6, attributes := #[] }, { accessFlags := 10, nameIndex := 32, descriptorIndex := 33, attributes := #[] }, { accessFlags := 9, nameIndex := 36, descriptorIndex := 37, attributes := #[] }] 49 2 #[] #[])
  fields := #[]
  methods := #[k1m0, k1m1, k1m2]
  instanceTypes := #[]
  staticTypes := #[]
  resolved := Array.replicate 41 none
  statics := none }

def pool2 : Array CpInfo := pool [(1, .class_ 2), (0, u "java/lang/Math"), (1, .class_ 6), (1, u "java/lang/Object"), (0, u "<init>"), (0, u "()V"), (89, .class_ 100), (1, u "java/lang/Math$RandomNumberGeneratorHolder"), (20, u "(JJ)J"), (50, u "negativeZeroFloatBits"), (0, u "J"), (2, u "negativeZeroDoubleBits"), (21, u "max"), (2, u "min"), (43, u "$assertionsDisabled"), (0, u "Z"), (91, u "twoToTheDoubleScaleDown"), (0, u "D"), (4, u "twoToTheDoubleScaleUp"), (9, u "E"), (3, u "PI"), (2, u "TAU"), (2, u "DEGREES_TO_RADIANS"), (0, u "RADIANS_TO_DEGREES")] 94

def k2m0 : Method := { name := "<init>", desc := "()V", sig := { parameters := [], returnType := none }, accessFlags := 2, code := none }
def k2c1 : Code := { maxStack := 4, maxLocals := 4, code := jdk_29_method_66_code, exceptionTable := #[], attributes := #[] }
def k2m1 : Method := { name := "max", desc := "(JJ)J", sig := { parameters := [.long, .long], returnType := some .long }, accessFlags := 9, code := some k2c1 }
def k2c2 : Code := { maxStack := 4, maxLocals := 4, code := jdk_29_method_70_code, exceptionTable := #[], attributes := #[] }
def k2m2 : Method := { name := "min", desc := "(JJ)J", sig := { parameters := [.long, .long], returnType := some .long }, accessFlags := 9, code := some k2c2 }
/-- java/lang/Math -/
def k2 : Class := { plain "java/lang/Math" (some 0) with
  accessFlags := 49
  interfaces := #[]
  cf := some (fileOf pool2 1 #[.nestMembers #[98]] #[{ accessFlags := 2, nameIndex := 7, descriptorIndex := 8, attributes := #[] }, { accessFlags := 9, nameIndex := 198, descriptorIndex := 121, attributes := #[] }, { accessFlags := 9, nameIndex := 201, descriptorIndex := 121, attributes := #[] }] 49 4 #[] #[{ accessFlags := 25, nameIndex := 354, descriptorIndex := 339, attributes := #[] }, { accessFlags := 25, nameIndex := 358, descriptorIndex := 339, attributes := #[] }, { accessFlags := 25, nameIndex := 361, descriptorIndex := 339, attributes := #[] }, { accessFlags := 26, nameIndex := 364, descriptorIndex := 339, attributes := #[] }, { accessFlags := 26, nameIndex := 365, descriptorIndex := 339, attributes := #[] }, { accessFlags := 26, nameIndex := 172, descriptorIndex := 173, attributes := #[] }, { accessFlags := 26, nameIndex := 176, descriptorIndex := 173, attributes := #[] }, { accessFlags := 8, nameIndex := 344, descriptorIndex := 339, attributes := #[] }, { accessFlags := 8, nameIndex := 338, descriptorIndex := 339, attributes := #[] }, { accessFlags := 4120, nameIndex := 245, descriptorIndex := 246, attributes := #[] }])
  fields := #[{ name := "E", type := .double, accessFlags := 25, slot := 0, constantValue := 0 }, { name := "PI", type := .double, accessFlags := 25, slot := 1, constantValue := 0 }, { name := "TAU", type := .double, accessFlags := 25, slot := 2, constantValue := 0 }, { name := "DEGREES_TO_RADIANS", type := .double, accessFlags := 26, slot := 3, constantValue := 0 }, { name := "RADIANS_TO_DEGREES", type := .double, accessFlags := 26, slot := 4, constantValue := 0 }, { name := "negativeZeroFloatBits", type := .long, accessFlags := 26, slot := 5, constantValue := 0 }, { name := "negativeZeroDoubleBits", type := .long, accessFlags := 26, slot := 6, constantValue := 0 }, { name := "twoToTheDoubleScaleUp", type := .double, accessFlags := 8, slot := 7, constantValue := 0 }, { name := "twoToTheDoubleScaleDown", type := .double, accessFlags := 8, slot := 8, constantValue := 0 }, { name := "$assertionsDisabled", type := .boolean, accessFlags := 4120, slot := 9, constantValue := 0 }]
  methods := #[k2m0, k2m1, k2m2]
  instanceTypes := #[]
  staticTypes := #[.double, .double, .double, .double, .double, .long, .long, .double, .double, .boolean]
  resolved := Array.replicate 460 none
  statics := none }

def pool3 : Array CpInfo := pool [(1, .methodref 2 3), (0, .class_ 4), (0, .nameAndType 5 6), (0, u "java/lang/Object"), (0, u "<init>"), (0, u "()V"), (0, .class_ 8), (0, u "java/lang/Record")] 13

def k3c0 : Code := { maxStack := 1, maxLocals := 1, code := jdk_30_method_1_code, exceptionTable := #[], attributes := #[] }
def k3m0 : Method := { name := "<init>", desc := "()V", sig := { parameters := [], returnType := none }, accessFlags := 4, code := some k3c0 }
/-- java/lang/Record -/
def k3 : Class := { plain "java/lang/Record" (some 0) with
  accessFlags := 1057
  interfaces := #[]
  cf := some (fileOf pool3 7 #[] #[{ accessFlags := 4, nameIndex := 5, descriptorIndex := 6, attributes := #[] }] 1057 2 #[] #[])
  fields := #[]
  methods := #[k3m0]
  instanceTypes := #[]
  staticTypes := #[]
  resolved := Array.replicate 22 none
  statics := none }

def pool4 : Array CpInfo := pool [(1, .methodref 2 3), (0, .class_ 4), (0, .nameAndType 5 6), (0, u "java/lang/Record"), (0, u "<init>"), (0, u "()V"), (2, .integer 65535), (9, .fieldref 20 21), (0, .class_ 22), (0, .nameAndType 23 24), (0, u "com/example/grantline/grantline/eval/EphemeralPorts"), (0, u "low"), (0, u "I"), (0, .fieldref 20 26), (0, .nameAndType 27 24), (0, u "high"), (2, u "TEXT"), (0, u "Ljava/util/regex/Pattern;"), (27, u "(II)V"), (24, u "holds"), (0, u "(JJ)Z")] 35

def k4c0 : Code := { maxStack := 4, maxLocals := 3, code := prog_29_method_1_code, exceptionTable := #[], attributes := #[] }
def k4m0 : Method := { name := "<init>", desc := "(II)V", sig := { parameters := [.int, .int], returnType := none }, accessFlags := 1, code := some k4c0 }
def k4c1 : Code := { maxStack := 4, maxLocals := 5, code := prog_29_method_3_code, exceptionTable := #[], attributes := #[] }
def k4m1 : Method := { name := "holds", desc := "(JJ)Z", sig := { parameters := [.long, .long], returnType := some .boolean }, accessFlags := 0, code := some k4c1 }
/-- com/example/grantline/grantline/eval/EphemeralPorts -/
def k4 : Class := { plain "com/example/grantline/grantline/eval/EphemeralPorts" (some 3) with
  accessFlags := 49
  interfaces := #[]
  cf := some (fileOf pool4 20 #[] #[{ accessFlags := 1, nameIndex := 5, descriptorIndex := 59, attributes := #[] }, { accessFlags := 0, nameIndex := 84, descriptorIndex := 85, attributes := #[] }] 49 2 #[] #[{ accessFlags := 18, nameIndex := 23, descriptorIndex := 24, attributes := #[] }, { accessFlags := 18, nameIndex := 27, descriptorIndex := 24, attributes := #[] }, { accessFlags := 26, nameIndex := 30, descriptorIndex := 31, attributes := #[] }])
  fields := #[{ name := "low", type := .int, accessFlags := 18, slot := 0, constantValue := 0 }, { name := "high", type := .int, accessFlags := 18, slot := 1, constantValue := 0 }, { name := "TEXT", type := (.object "java/util/regex/Pattern"), accessFlags := 26, slot := 0, constantValue := 0 }]
  methods := #[k4m0, k4m1]
  instanceTypes := #[.int, .int]
  staticTypes := #[(.object "java/util/regex/Pattern")]
  resolved := Array.replicate 121 none
  statics := none }

def pool5 : Array CpInfo := pool [(1, u "java/lang/Cloneable"), (0, .class_ 1), (0, u "java/lang/Object"), (0, .class_ 3)] 3

/-- java/lang/Cloneable -/
def k5 : Class := { plain "java/lang/Cloneable" (some 0) with
  accessFlags := 1537
  interfaces := #[]
  cf := some (fileOf pool5 2 #[] #[] 1537 4 #[] #[])
  fields := #[]
  methods := #[]
  instanceTypes := #[]
  staticTypes := #[]
  resolved := Array.replicate 8 none
  statics := none }

def pool6 : Array CpInfo := pool [(1, u "java/io/Serializable"), (0, .class_ 1), (0, u "java/lang/Object"), (0, .class_ 3)] 3

/-- java/io/Serializable -/
def k6 : Class := { plain "java/io/Serializable" (some 0) with
  accessFlags := 1537
  interfaces := #[]
  cf := some (fileOf pool6 2 #[] #[] 1537 4 #[] #[])
  fields := #[]
  methods := #[]
  instanceTypes := #[]
  staticTypes := #[]
  resolved := Array.replicate 8 none
  statics := none }

/-- the primitive byte -/
def k7 : Class := { plain "byte" none with kind := .primitive 'B', accessFlags := 0x411 }
/-- [B -/
def k8 : Class := { plain "[B" (some 0) with kind := .array 7 .byte, interfaces := #[5, 6], accessFlags := 1041 }

/-- the primitive int -/
def k9 : Class := { plain "int" none with kind := .primitive 'I', accessFlags := 0x411 }
/-- [I -/
def k10 : Class := { plain "[I" (some 0) with kind := .array 9 .int, interfaces := #[5, 6], accessFlags := 1041 }

def heap : Heap := #[]
def classes : Array Class := #[k0, k1, k2, k3, k4, k5, k6, k7, k8, k9, k10]
def interned : List (Array UInt16 × Addr) := []
def slotsUsed : Nat := 0
def theMethod : MethodId := ⟨1, 2⟩
def args0 : Array Value := #[.int 100, .int 5, .long 70, .long 90]
def aboutOver (below : List Frame) : State where
  vm := { classes := classes, interned := interned.toArray }
  heap := heap
  slotsUsed := slotsUsed
  threads := #[{ frames := .invoking theMethod args0 :: below }]
def below0 : List Frame := [.native { method := ⟨0, 0⟩, args := #[] }]
def about1 : State := aboutOver below0
def p0 : Program := .bare "" "" ""
def e0 : Env := launch0.env 0 0 0
theorem w_frames : about1.frames = Frame.invoking theMethod args0 :: below0 := rfl
set_option maxRecDepth 65536 in
theorem w_args : argsFit about1.vm theMethod args0 = true := by decide +kernel
set_option maxRecDepth 65536 in
theorem w_heap : heapFits about1 = true := by decide +kernel
set_option maxRecDepth 65536 in
theorem w_runnable : about1.curStatus? = some .runnable := by decide +kernel
set_option maxRecDepth 65536 in
theorem w_alone : about1.alone = true := by decide +kernel
set_option maxRecDepth 65536 in
theorem w_named : about1.methodNamed? x = some theMethod := by decide +kernel
set_option maxRecDepth 65536 in
theorem w_hears : about1.hears theMethod below0 = true := by decide +kernel
set_option maxRecDepth 65536 in
theorem w_ripe : about1.ripe theMethod args0 below0 = true := by decide +kernel
theorem w_running : about1.status = .running := rfl
set_option maxRecDepth 65536 in
theorem w_room : about1.hasRoom e0.platform room_1 = true :=
  launch0.hasRoom_least _ room_1 (by decide +kernel) (by decide +kernel) (by decide +kernel) (by decide +kernel) (by decide +kernel) (by decide +kernel)
theorem allAtoms_all (ts : List Jvm.Cond) (a : Array Jvm.Value) (st : Jvm.State) : (allAtoms ts).before a st = ts.all (fun c => c.before a st) := by
  induction ts with
  | nil => rfl
  | cons c t ih =>
    show (Jvm.Cond.and c (allAtoms t)).before a st = _
    rw [Jvm.Cond.before_and, ih, List.all_cons]
def words1 : List Jvm.Cond := Jvm.Cond.code x code maxLocals ret :: tables_1
/-- a 'code' word, met by the world's own term for the bytes: nothing is compared byte by byte -/
theorem code_word {y : MethodName} {bytes : ByteArray} {mx : Nat} {rt : Option FieldType} {a : Array Value} {s : State} {m : MethodId} {meth : Method} {c : Code} (h1 : s.methodNamed? y = some m) (h2 : s.vm.method? m = some meth) (h3 : meth.code = some c) (h4 : c.code = bytes)
    (h5 : (c.maxLocals == mx && c.exceptionTable.isEmpty && decide (c.maxStack ≤ mostOperands) && decide (meth.sig.returnType = rt) && !meth.locks && decide (parseMethodDescriptor y.desc = some meth.sig)) = true) : (Jvm.Cond.code y bytes mx rt).before a s = true := by
  simp only [Bool.and_eq_true, beq_iff_eq, Bool.not_eq_true', decide_eq_true_eq] at h5
  obtain ⟨⟨⟨⟨⟨g1, g2⟩, g3⟩, g4⟩, g5⟩, g6⟩ := h5
  simp [Cond.before, Cond.holds, Cond.value, h1, h2, h3, h4, g1, g2, g3, g4, g5, g6]
def isCode : Jvm.Cond → Bool
  | .code _ _ _ _ => true
  | _ => false
theorem all_split {L : List Jvm.Cond} {P : Jvm.Cond → Bool} (h1 : L.all (fun c => isCode c || P c) = true) (h2 : ∀ c ∈ L.filter isCode, P c = true) : L.all P = true := by
  refine List.all_eq_true.mpr fun c hc => ?_
  have h := List.all_eq_true.mp h1 c hc
  rcases Bool.eq_false_or_eq_true (isCode c) with hi | hi
  · exact h2 c (List.mem_filter.mpr ⟨hc, hi⟩)
  · simpa [hi] using h
set_option maxRecDepth 65536 in
theorem w_c0 : (Jvm.Cond.code x code maxLocals ret).before args0 about1 = true := code_word (m := ⟨1, 2⟩) (meth := k1m2) (c := k1c2) (by decide +kernel) rfl rfl rfl (by decide +kernel)
set_option maxRecDepth 65536 in
theorem w_c1 : (Jvm.Cond.code ({ cls := "java/lang/Math", name := "min", desc := "(JJ)J" } : Jvm.MethodName) jdk_29_method_70_code (4 : Nat) (Option.some Jvm.ClassFile.FieldType.long)).before args0 about1 = true := code_word (m := ⟨2, 2⟩) (meth := k2m2) (c := k2c2) (by decide +kernel) rfl rfl rfl (by decide +kernel)
set_option maxRecDepth 65536 in
theorem w_c2 : (Jvm.Cond.code ({ cls := "java/lang/Math", name := "max", desc := "(JJ)J" } : Jvm.MethodName) jdk_29_method_66_code (4 : Nat) (Option.some Jvm.ClassFile.FieldType.long)).before args0 about1 = true := code_word (m := ⟨2, 1⟩) (meth := k2m1) (c := k2c1) (by decide +kernel) rfl rfl rfl (by decide +kernel)
set_option maxRecDepth 65536 in
theorem w_c3 : (Jvm.Cond.code ({ cls := "com/example/grantline/grantline/eval/EphemeralPorts", name := "<init>", desc := "(II)V" } : Jvm.MethodName) prog_29_method_1_code (3 : Nat) (Option.none : Option Jvm.ClassFile.FieldType)).before args0 about1 = true := code_word (m := ⟨4, 0⟩) (meth := k4m0) (c := k4c0) (by decide +kernel) rfl rfl rfl (by decide +kernel)
set_option maxRecDepth 65536 in
theorem w_c4 : (Jvm.Cond.code ({ cls := "java/lang/Record", name := "<init>", desc := "()V" } : Jvm.MethodName) jdk_30_method_1_code (1 : Nat) (Option.none : Option Jvm.ClassFile.FieldType)).before args0 about1 = true := code_word (m := ⟨3, 0⟩) (meth := k3m0) (c := k3c0) (by decide +kernel) rfl rfl rfl (by decide +kernel)
set_option maxRecDepth 65536 in
theorem w_c5 : (Jvm.Cond.code ({ cls := "java/lang/Object", name := "<init>", desc := "()V" } : Jvm.MethodName) object_method_1_code (1 : Nat) (Option.none : Option Jvm.ClassFile.FieldType)).before args0 about1 = true := code_word (m := ⟨0, 0⟩) (meth := k0m0) (c := k0c0) (by decide +kernel) rfl rfl rfl (by decide +kernel)
set_option maxRecDepth 65536 in
theorem w_c6 : (Jvm.Cond.code ({ cls := "com/example/grantline/grantline/eval/EphemeralPorts", name := "holds", desc := "(JJ)Z" } : Jvm.MethodName) prog_29_method_3_code (5 : Nat) (Option.some Jvm.ClassFile.FieldType.boolean)).before args0 about1 = true := code_word (m := ⟨4, 1⟩) (meth := k4m1) (c := k4c1) (by decide +kernel) rfl rfl rfl (by decide +kernel)
set_option maxRecDepth 65536 in
theorem w_c7 : (Jvm.Cond.code ({ cls := "com/example/grantline/grantline/eval/EphemeralPortsHoldsPinLaw", name := "clamp", desc := "(JII)J" } : Jvm.MethodName) method_2_code (4 : Nat) (Option.some Jvm.ClassFile.FieldType.long)).before args0 about1 = true := code_word (m := ⟨1, 1⟩) (meth := k1m1) (c := k1c1) (by decide +kernel) rfl rfl rfl (by decide +kernel)
def codes1 : List Jvm.Cond := [Jvm.Cond.code x code maxLocals ret, Jvm.Cond.code ({ cls := "java/lang/Math", name := "min", desc := "(JJ)J" } : Jvm.MethodName) jdk_29_method_70_code (4 : Nat) (Option.some Jvm.ClassFile.FieldType.long), Jvm.Cond.code ({ cls := "java/lang/Math", name := "max", desc := "(JJ)J" } : Jvm.MethodName) jdk_29_method_66_code (4 : Nat) (Option.some Jvm.ClassFile.FieldType.long), Jvm.Cond.code ({ cls := "com/example/grantline/grantline/eval/EphemeralPorts", name := "<init>", desc := "(II)V" } : Jvm.MethodName) prog_29_method_1_code (3 : Nat) (Option.none : Option Jvm.ClassFile.FieldType), Jvm.Cond.code ({ cls := "java/lang/Record", name := "<init>", desc := "()V" } : Jvm.MethodName) jdk_30_method_1_code (1 : Nat) (Option.none : Option Jvm.ClassFile.FieldType), Jvm.Cond.code ({ cls := "java/lang/Object", name := "<init>", desc := "()V" } : Jvm.MethodName) object_method_1_code (1 : Nat) (Option.none : Option Jvm.ClassFile.FieldType), Jvm.Cond.code ({ cls := "com/example/grantline/grantline/eval/EphemeralPorts", name := "holds", desc := "(JJ)Z" } : Jvm.MethodName) prog_29_method_3_code (5 : Nat) (Option.some Jvm.ClassFile.FieldType.boolean), Jvm.Cond.code ({ cls := "com/example/grantline/grantline/eval/EphemeralPortsHoldsPinLaw", name := "clamp", desc := "(JII)J" } : Jvm.MethodName) method_2_code (4 : Nat) (Option.some Jvm.ClassFile.FieldType.long)]
set_option maxRecDepth 65536 in
theorem codes_eq : words1.filter isCode = codes1 := rfl
theorem w_codes : ∀ c ∈ words1.filter isCode, c.before args0 about1 = true := by
  rw [codes_eq]
  intro c hc
  simp only [codes1, List.mem_cons, List.not_mem_nil, or_false] at hc
  rcases hc with rfl | rfl | rfl | rfl | rfl | rfl | rfl | rfl
  · exact w_c0
  · exact w_c1
  · exact w_c2
  · exact w_c3
  · exact w_c4
  · exact w_c5
  · exact w_c6
  · exact w_c7
set_option maxRecDepth 65536 in
theorem w_t1 : (words1.take 24).all (fun c => isCode c || c.before args0 about1) = true := by decide +kernel
set_option maxRecDepth 65536 in
theorem w_t2 : (words1.drop 24).all (fun c => isCode c || c.before args0 about1) = true := by decide +kernel
theorem w_tables : (allAtoms (Jvm.Cond.code x code maxLocals ret :: tables_1)).before args0 about1 = true := by
  rw [allAtoms_all]
  show words1.all (fun c => c.before args0 about1) = true
  refine all_split ?_ w_codes
  rw [← List.take_append_drop 24 words1, List.all_append, w_t1, w_t2]
  rfl
set_option maxRecDepth 65536 in
theorem w_case : (Jvm.Cond.and given_1 narrow_1).before args0 about1 = true := by decide +kernel
theorem w_applies : (headSpec (Jvm.Cond.code x code maxLocals ret :: tables_1) room_1).applies x e0.platform about1 = true :=
  (Spec.applies_iff w_frames).mpr ⟨w_running, w_runnable, w_alone, w_named, w_hears, w_ripe, w_room, w_tables⟩
theorem atStart : AtStart classFile x code maxLocals ret World_1 tables_1 room_1 Calls_1 rest_1 Pre_1 launch0 p0 e0 about1 theMethod args0 below0 :=
  ⟨lists_1, trivial, launch0.admits_env _ _ _, launch0.least_env, fairChoices_fair.cas, fairChoices_fair.clock, w_frames, w_args, w_heap, w_applies, trivial, trivial, w_case⟩
end start1
theorem witness_1 : WitnessClaimed_1 := ⟨start1.p0, start1.e0, start1.about1, start1.theMethod, start1.args0, start1.below0, start1.atStart⟩
end Jvm.Pilot.@@N@@
