import JvmDerived
import JvmDerived.Pilot.@@N@@Statement
import JvmDerived.Pilot.@@N@@Code
set_option linter.unusedVariables false
set_option linter.unusedSimpArgs false
namespace Jvm.Pilot.@@N@@
open Jvm Jvm.ClassFile Sem Op Lib Jvm.Free Jvm.Stand Jvm.LawKit Jvm.RoadKit Bundle Jvm.Pilot.@@N@@.Jvm.D
section OwnKit
variable {p : Program} {l : Launch} {e : Env} {R : Room} {s : State} {m : MethodId} {args : Array Value} {below : List Frame} {meth : Method} {c : Code} {T : State} {locs : List Loc} {cells slots : Nat} {Z : State} {a0 : Array Value} {h : Heap}
/-- the run from t ends, and Q holds of its end -/
def own_Fin (tb : Tables) (e : Env) (below : List Frame) (Q : Outcome → State → Prop) (t : State) : Prop := ∃ s₂ o, Steps tb e below t s₂ ∧ s₂.status = .running ∧ Ended s₂ below o ∧ Q o s₂
theorem own_go {tb : Tables} {Q : Outcome → State → Prop} {t t' : State} (k : ∀ z, Steps tb e below t' z → Steps tb e below t z) (f : own_Fin tb e below Q t') : own_Fin tb e below Q t := by
  obtain ⟨s₂, o, h1, h2⟩ := f
  exact ⟨s₂, o, k _ h1, h2⟩
/-- the run from t comes to a state of which G holds -/
def own_Go (tb : Tables) (e : Env) (below : List Frame) (G : State → Prop) (t : State) : Prop := ∃ t', G t' ∧ ∀ z, Steps tb e below t' z → Steps tb e below t z
theorem own_on {tb : Tables} {G : State → Prop} {t t' : State} (k : ∀ z, Steps tb e below t' z → Steps tb e below t z) (f : own_Go tb e below G t') : own_Go tb e below G t := by
  obtain ⟨t₂, h1, h2⟩ := f
  exact ⟨t₂, h1, fun z q => k z (h2 z q)⟩
theorem own_here {tb : Tables} {G : State → Prop} {t : State} (k : G t) : own_Go tb e below G t := ⟨t, k, fun _ q => q⟩
def own_End (s : State) (Q : Option Value → Heap → List Loc → Prop) (C S : Nat) (o : Outcome) (U : State) : Prop := ∃ v L, o = .returned v ∧ Q v U.heap L ∧ FrameEnd s o U L C S
variable {Q : Option Value → Heap → List Loc → Prop} {C S : Nat}
theorem own_retI (X : Stand p l e R s m args below meth c T locs cells slots) (hx : p.tables.exec = Jvm.exec) (hlk : meth.locks = false) {pc : Nat} {Ls : Array Slot} {z : Int32} {rest : List Value} (hret : meth.sig.returnType = some .int) (hd : decode c.code pc = .ok (.ireturn, 1)) (hq : Q (some (.int z)) T.heap locs) (hC : cells ≤ C) (hS : slots ≤ S) :
    own_Fin p.tables e below (own_End s Q C S) (T.setTop (mkF m pc Ls (.int z :: rest))) := by
  obtain ⟨fs, hr, hrun, hended, hW, hsame⟩ := X.leave (v := some (.int z)) (fun h => by rw [hret] at h; cases h) hlk
  exact ⟨_, _, retOut X hx hret rfl (Or.inl ⟨rfl, Or.inl rfl, _, rfl⟩) hd hr, hrun, hended, _, _, rfl, hq, ⟨_, rfl⟩, hW, hsame.mono hC hS⟩
theorem own_retN (X : Stand p l e R s m args below meth c T locs cells slots) (hx : p.tables.exec = Jvm.exec) (hlk : meth.locks = false) {pc : Nat} {Ls : Array Slot} {z : Int32} {rest : List Value} {t : FieldType} (hret : meth.sig.returnType = some t) (ht : t = .boolean ∨ t = .byte ∨ t = .char ∨ t = .short) (hd : decode c.code pc = .ok (.ireturn, 1)) (hq : Q (some (.int (nar t z))) T.heap locs) (hC : cells ≤ C) (hS : slots ≤ S) :
    own_Fin p.tables e below (own_End s Q C S) (T.setTop (mkF m pc Ls (.int z :: rest))) := by
  obtain ⟨fs, hr, hrun, hended, hW, hsame⟩ := X.leave (v := some (.int (nar t z))) (fun h => by rw [hret] at h; cases h) hlk
  exact ⟨_, _, retN X hx hret ht hd hr, hrun, hended, _, _, rfl, hq, ⟨_, rfl⟩, hW, hsame.mono hC hS⟩
theorem own_retJ (X : Stand p l e R s m args below meth c T locs cells slots) (hx : p.tables.exec = Jvm.exec) (hlk : meth.locks = false) {pc : Nat} {Ls : Array Slot} {z : Int64} {rest : List Value} (hret : meth.sig.returnType = some .long) (hd : decode c.code pc = .ok (.lreturn, 1)) (hq : Q (some (.long z)) T.heap locs) (hC : cells ≤ C) (hS : slots ≤ S) :
    own_Fin p.tables e below (own_End s Q C S) (T.setTop (mkF m pc Ls (.long z :: rest))) := by
  obtain ⟨fs, hr, hrun, hended, hW, hsame⟩ := X.leave (v := some (.long z)) (fun h => by rw [hret] at h; cases h) hlk
  exact ⟨_, _, retOut X hx hret rfl (Or.inr (Or.inl ⟨rfl, rfl, _, rfl⟩)) hd hr, hrun, hended, _, _, rfl, hq, ⟨_, rfl⟩, hW, hsame.mono hC hS⟩
theorem own_retA (X : Stand p l e R s m args below meth c T locs cells slots) (hx : p.tables.exec = Jvm.exec) (hlk : meth.locks = false) {pc : Nat} {Ls : Array Slot} {w : Value} {rest : List Value} {t : FieldType} (hret : meth.sig.returnType = some t) (ht : t.isReference = true) (hw : w.isRef = true) (hd : decode c.code pc = .ok (.areturn, 1)) (hq : Q (some w) T.heap locs) (hC : cells ≤ C) (hS : slots ≤ S) :
    own_Fin p.tables e below (own_End s Q C S) (T.setTop (mkF m pc Ls (w :: rest))) := by
  obtain ⟨fs, hr, hrun, hended, hW, hsame⟩ := X.leave (v := some w) (fun h => by rw [hret] at h; cases h) hlk
  have hn : narrow t w = w := by cases t <;> first | (cases ht; done) | (cases w <;> first | (cases hw; done) | rfl)
  exact ⟨_, _, retOut X hx hret hn (Or.inr (Or.inr (Or.inr (Or.inr ⟨rfl, ht, hw⟩)))) hd hr, hrun, hended, _, _, rfl, hq, ⟨_, rfl⟩, hW, hsame.mono hC hS⟩
theorem own_retV (X : Stand p l e R s m args below meth c T locs cells slots) (hx : p.tables.exec = Jvm.exec) (hlk : meth.locks = false) {pc : Nat} {Ls : Array Slot} (hret : meth.sig.returnType = none) (hd : decode c.code pc = .ok (.return_, 1)) (hq : Q none T.heap locs) (hC : cells ≤ C) (hS : slots ≤ S) :
    own_Fin p.tables e below (own_End s Q C S) (T.setTop (mkF m pc Ls [])) := by
  obtain ⟨fs, hr, hrun, hended, hW, hsame⟩ := X.leave (v := none) (fun _ => rfl) hlk
  exact ⟨_, _, X.returnOut hx hret hd hr, hrun, hended, _, _, rfl, hq, ⟨_, rfl⟩, hW, hsame.mono hC hS⟩
/-- what a body's contract says: called with as' at the heap h0 it returns, and Q holds of what it returns, of the heap and of the places written -/
def own_Met (l : Launch) (y : MethodName) (bytes : ByteArray) (maxL : Nat) (ret : Option FieldType) (rm : Room) (ws : List Jvm.Cond) (as' : Array Value) (Z : State) (h0 : Heap) (C S : Nat) (Q : Option Value → Heap → List Loc → Prop) : Prop :=
  MetFree l y (head1 (Jvm.Cond.code y bytes maxL ret :: ws) rm) (fun a U => a = as' ∧ Z.Warmed39 U.vm ∧ U.heap = h0) (fun _ _ _ _ _ => True) (fun _ U o U' => ∃ v L, o = .returned v ∧ Q v U'.heap L ∧ FrameEnd U o U' L C S)
theorem own_met {y : MethodName} {bytes : ByteArray} {maxL : Nat} {ret : Option FieldType} {rm : Room} {ws : List Jvm.Cond} {as' : Array Value} {h0 : Heap} (hy : plainFor y = true)
    (body : ∀ (p : Program) (e : Env) (s : State) (m : MethodId) (below : List Frame) (meth : Method) (c : Code) (s₁ : State), p.tables.exec = Jvm.exec → c.code = bytes → c.maxLocals = maxL → s.vm.findClass y.cls = some m.cls → meth.name = y.name → meth.sig.returnType = ret → meth.locks = false → Z.Warmed39 s.vm → s₁.heap = h0 → Stand p l e rm s m as' below meth c s₁ [] 0 0 → own_Fin p.tables e below (own_End s Q C S) (s₁.setTop (entryFrame m as' maxL))) :
    own_Met l y bytes maxL ret rm ws as' Z h0 C S Q := by
  refine MetFree.of_bodySF hy hisR ?_
  intro p e s m args below meth c s₁ Bd hml0 hP hK
  obtain ⟨rfl, hZ, hh⟩ := hP
  have X0 : Stand p l e rm s m args below meth c s₁ [] 0 0 := Stand.of_body Bd
  exact body p e s m below meth c s₁ Bd.exec Bd.bytes hml0 (findClass_of_methodNamed Bd.named) (name_of_methodNamed Bd.named Bd.method).1 Bd.returns Bd.notSynchronized hZ (by rw [← hh, Bd.state]; rfl) X0
section Calls
variable {own : String} {index : Nat} {y : MethodName} {bytes : ByteArray} {maxL : Nat} {ret : Option FieldType} {rm : Room} {as' : Array Value}
theorem own_callS (X : Stand p l e R s m args below meth c T locs cells slots) (hx : p.tables.exec = Jvm.exec) (hZ : Z.Warmed39 s.vm) (hown : s.vm.findClass own = some m.cls) (w1 : (Jvm.Cond.methodLink own index y).before a0 Z = true) (w2 : (Jvm.Cond.static y).before a0 Z = true) (w3 : (Jvm.Cond.initialized y.cls).before a0 Z = true) (w4 : (Jvm.Cond.code y bytes maxL ret).before a0 Z = true)
    (hy : y.cls ≠ "java/lang/invoke/MethodHandle" ∧ y.cls ≠ "java/lang/invoke/VarHandle") {W : Nat} (hM : own_Met l y bytes maxL ret rm [] as' Z h rm.cells rm.slots Q) (hf : rm.frames + 1 ≤ R.frames) (hl : W + (maxL + 11) + rm.locals ≤ R.locals) (eT : T.heap = h)
    {g : JFrame} (hg : g.method = m) (hsize : g.locals.size = c.maxLocals) {argsL rest : List Value} (has : argsL.toArray = as') (hlen : ∀ sig, parseMethodDescriptor y.desc = some sig → argsL.length = sig.parameters.length)
    (hstack : g.stack = argsL.reverse ++ rest) (hW : 2 * g.monitorRoom + (rest.map fun v => v.category).sum ≤ W) (hdg : decode c.code g.pc = .ok (.invokestatic index, 3)) (hc : cells + rm.cells ≤ R.cells) (hs : slots + rm.slots ≤ R.slots) :
    ∃ (v : Option Value) (T' : State) (L' : List Loc), Stand p l e R s m args below meth c T' (locs ++ L') (cells + rm.cells) (slots + rm.slots) ∧ Q v T'.heap L' ∧
      ∀ t, Steps p.tables e below (T'.setTop { g with pc := g.pc + 3, stack := v.toList ++ rest }) t → Steps p.tables e below (T.setTop g) t := by
  obtain ⟨v, vm1, ⟨T', L, k, n⟩, -, X', ⟨L', hQ, e1, e2, e3⟩, st⟩ := Jvm.LawKit.callS X hx hown (mvT hZ w1) (mvT hZ w2) (mvT hZ w3) (mvT hZ w4) hy (backOf (W := W) hM hZ w4 w3 hf hl) hg hsize hlen hstack hW hdg (fun _ _ => ⟨has, eT, hc, hs⟩)
  dsimp only [Pt.U, Pt.locs, Pt.cells, Pt.slots] at X' e1 e2 e3 st hQ
  subst e1 e2 e3
  exact ⟨v, T', L', X', hQ, st⟩
theorem own_callC (X : Stand p l e R s m args below meth c T locs cells slots) (hx : p.tables.exec = Jvm.exec) (hZ : Z.Warmed39 s.vm) (hown : s.vm.findClass own = some m.cls) (hnm : y.name = "<init>") (w1 : (Jvm.Cond.methodLink own index y).before a0 Z = true) (w2 : (Jvm.Cond.instanceMethod y).before a0 Z = true) (w3 : (Jvm.Cond.initialized y.cls).before a0 Z = true) (w4 : (Jvm.Cond.code y bytes maxL none).before a0 Z = true)
    (hy : y.cls ≠ "java/lang/invoke/MethodHandle" ∧ y.cls ≠ "java/lang/invoke/VarHandle") {W : Nat} (hM : own_Met l y bytes maxL none rm [] as' Z h rm.cells rm.slots Q) (hf : rm.frames + 1 ≤ R.frames) (hl : W + (maxL + 11) + rm.locals ≤ R.locals) (eT : T.heap = h)
    {g : JFrame} (hg : g.method = m) (hsize : g.locals.size = c.maxLocals) {a : Addr} {argsL rest : List Value} (has : (.ref a :: argsL).toArray = as') (hlen : ∀ sig, parseMethodDescriptor y.desc = some sig → argsL.length = sig.parameters.length)
    (hstack : g.stack = argsL.reverse ++ .ref a :: rest) (hW : 2 * g.monitorRoom + (rest.map fun v => v.category).sum ≤ W) (hdg : decode c.code g.pc = .ok (.invokespecial index, 3)) (hc : cells + rm.cells ≤ R.cells) (hs : slots + rm.slots ≤ R.slots) :
    ∃ (v : Option Value) (T' : State) (L' : List Loc), Stand p l e R s m args below meth c T' (locs ++ L') (cells + rm.cells) (slots + rm.slots) ∧ Q v T'.heap L' ∧
      ∀ t, Steps p.tables e below (T'.setTop { g with pc := g.pc + 3, stack := v.toList ++ rest }) t → Steps p.tables e below (T.setTop g) t := by
  obtain ⟨v, vm1, ⟨T', L, k, n⟩, -, X', ⟨L', hQ, e1, e2, e3⟩, st⟩ := X.specialBack hx hnm hown (mvT hZ w1) (mvT hZ w2) (mvT hZ w4) hy (backOf (W := W) hM hZ w4 w3 hf hl) hg hsize (Steps.refl _) hlen hstack hW hdg (fun _ _ => ⟨has, eT, hc, hs⟩)
  dsimp only [Pt.U, Pt.locs, Pt.cells, Pt.slots] at X' e1 e2 e3 st hQ
  subst e1 e2 e3
  exact ⟨v, T', L', X', hQ, fun _ k => st.trans k⟩
theorem own_callV (X : Stand p l e R s m args below meth c T locs cells slots) (hx : p.tables.exec = Jvm.exec) (hZ : Z.Warmed39 s.vm) (hown : s.vm.findClass own = some m.cls) {D : String} (w1 : (Jvm.Cond.methodLink own index y).before a0 Z = true) (w2 : (Jvm.Cond.declares y).before a0 Z = true) (w3 : (Jvm.Cond.selects D y y).before a0 Z = true) (w4 : (Jvm.Cond.instanceMethod y).before a0 Z = true) (w5 : (Jvm.Cond.initialized y.cls).before a0 Z = true) (w6 : (Jvm.Cond.code y bytes maxL ret).before a0 Z = true)
    (hy : y.cls ≠ "java/lang/invoke/MethodHandle" ∧ y.cls ≠ "java/lang/invoke/VarHandle") {W : Nat} (hM : own_Met l y bytes maxL ret rm [] as' Z h rm.cells rm.slots Q) (hf : rm.frames + 1 ≤ R.frames) (hl : W + (maxL + 11) + rm.locals ≤ R.locals) (eT : T.heap = h) {a : Addr} (E : Exa Z h a D)
    {g : JFrame} (hg : g.method = m) (hsize : g.locals.size = c.maxLocals) {argsL rest : List Value} (has : (.ref a :: argsL).toArray = as') (hlen : ∀ sig, parseMethodDescriptor y.desc = some sig → argsL.length = sig.parameters.length)
    (hstack : g.stack = argsL.reverse ++ .ref a :: rest) (hW : 2 * g.monitorRoom + (rest.map fun v => v.category).sum ≤ W) (hdg : decode c.code g.pc = .ok (.invokevirtual index, 3)) (hc : cells + rm.cells ≤ R.cells) (hs : slots + rm.slots ≤ R.slots) :
    ∃ (v : Option Value) (T' : State) (L' : List Loc), Stand p l e R s m args below meth c T' (locs ++ L') (cells + rm.cells) (slots + rm.slots) ∧ Q v T'.heap L' ∧
      ∀ t, Steps p.tables e below (T'.setTop { g with pc := g.pc + 3, stack := v.toList ++ rest }) t → Steps p.tables e below (T.setTop g) t := by
  obtain ⟨cq, kq, qa, qb, qc⟩ := isOf hZ eT E
  obtain ⟨v, vm1, ⟨T', L, k, n⟩, -, X', ⟨L', hQ, e1, e2, e3⟩, st⟩ := X.virtualBack hx hown (mvT hZ w1) (mvT hZ w2) (notFace_of_selects (args := #[]) (mvT hZ w3)) (mvT hZ w3) (mvT hZ w4) hy (backOf (W := W) hM hZ w6 w5 hf hl) qa qc hg hsize (Steps.refl _) hlen hstack hW hdg (fun _ _ => ⟨has, eT, hc, hs⟩)
  dsimp only [Pt.U, Pt.locs, Pt.cells, Pt.slots] at X' e1 e2 e3 st hQ
  subst e1 e2 e3
  exact ⟨v, T', L', X', hQ, fun _ k => st.trans k⟩
/-- as own_callC, own_callV, where who pays is given -/
theorem own_callCB (X : Stand p l e R s m args below meth c T locs cells slots) (hx : p.tables.exec = Jvm.exec) (hZ : Z.Warmed39 s.vm) (hown : s.vm.findClass own = some m.cls) (hnm : y.name = "<init>") (w1 : (Jvm.Cond.methodLink own index y).before a0 Z = true) (w2 : (Jvm.Cond.instanceMethod y).before a0 Z = true) (w4 : (Jvm.Cond.code y bytes maxL none).before a0 Z = true)
    (hy : y.cls ≠ "java/lang/invoke/MethodHandle" ∧ y.cls ≠ "java/lang/invoke/VarHandle") {W kc kn : Nat} (hK : Back l R p e below s args y 3 W (fun P a => a = as' ∧ P.U.heap = h ∧ P.cells + kc ≤ R.cells ∧ P.slots + kn ≤ R.slots) (fun P _ v B => ∃ L, Q v B.U.heap L ∧ B.locs = P.locs ++ L ∧ B.cells = P.cells + kc ∧ B.slots = P.slots + kn)) (eT : T.heap = h)
    {g : JFrame} (hg : g.method = m) (hsize : g.locals.size = c.maxLocals) {a : Addr} {argsL rest : List Value} (has : (.ref a :: argsL).toArray = as') (hlen : ∀ sig, parseMethodDescriptor y.desc = some sig → argsL.length = sig.parameters.length)
    (hstack : g.stack = argsL.reverse ++ .ref a :: rest) (hW : 2 * g.monitorRoom + (rest.map fun v => v.category).sum ≤ W) (hdg : decode c.code g.pc = .ok (.invokespecial index, 3)) (hc : cells + kc ≤ R.cells) (hs : slots + kn ≤ R.slots) :
    ∃ (v : Option Value) (T' : State) (L' : List Loc), Stand p l e R s m args below meth c T' (locs ++ L') (cells + kc) (slots + kn) ∧ Q v T'.heap L' ∧
      ∀ t, Steps p.tables e below (T'.setTop { g with pc := g.pc + 3, stack := v.toList ++ rest }) t → Steps p.tables e below (T.setTop g) t := by
  obtain ⟨v, vm1, ⟨T', L, k, n⟩, -, X', ⟨L', hQ, e1, e2, e3⟩, st⟩ := X.specialBack hx hnm hown (mvT hZ w1) (mvT hZ w2) (mvT hZ w4) hy hK hg hsize (Steps.refl _) hlen hstack hW hdg (fun _ _ => ⟨has, eT, hc, hs⟩)
  dsimp only [Pt.U, Pt.locs, Pt.cells, Pt.slots] at X' e1 e2 e3 st hQ
  subst e1 e2 e3
  exact ⟨v, T', L', X', hQ, fun _ k => st.trans k⟩
theorem own_callVB (X : Stand p l e R s m args below meth c T locs cells slots) (hx : p.tables.exec = Jvm.exec) (hZ : Z.Warmed39 s.vm) (hown : s.vm.findClass own = some m.cls) {D : String} (w1 : (Jvm.Cond.methodLink own index y).before a0 Z = true) (w2 : (Jvm.Cond.declares y).before a0 Z = true) (w3 : (Jvm.Cond.selects D y y).before a0 Z = true) (w4 : (Jvm.Cond.instanceMethod y).before a0 Z = true)
    (hy : y.cls ≠ "java/lang/invoke/MethodHandle" ∧ y.cls ≠ "java/lang/invoke/VarHandle") {W kc kn : Nat} {Qb : Option Value → State → List Loc → Prop} (hK : Back l R p e below s args y 3 W (fun P a => a = as' ∧ P.U.heap = h ∧ P.cells + kc ≤ R.cells ∧ P.slots + kn ≤ R.slots) (fun P _ v B => ∃ L, Qb v B.U L ∧ B.locs = P.locs ++ L ∧ B.cells = P.cells + kc ∧ B.slots = P.slots + kn)) (eT : T.heap = h) {a : Addr} (E : Exa Z h a D)
    {g : JFrame} (hg : g.method = m) (hsize : g.locals.size = c.maxLocals) {argsL rest : List Value} (has : (.ref a :: argsL).toArray = as') (hlen : ∀ sig, parseMethodDescriptor y.desc = some sig → argsL.length = sig.parameters.length)
    (hstack : g.stack = argsL.reverse ++ .ref a :: rest) (hW : 2 * g.monitorRoom + (rest.map fun v => v.category).sum ≤ W) (hdg : decode c.code g.pc = .ok (.invokevirtual index, 3)) (hc : cells + kc ≤ R.cells) (hs : slots + kn ≤ R.slots) :
    ∃ (v : Option Value) (T' : State) (L' : List Loc), Stand p l e R s m args below meth c T' (locs ++ L') (cells + kc) (slots + kn) ∧ Qb v T' L' ∧
      ∀ t, Steps p.tables e below (T'.setTop { g with pc := g.pc + 3, stack := v.toList ++ rest }) t → Steps p.tables e below (T.setTop g) t := by
  obtain ⟨cq, kq, qa, qb, qc⟩ := isOf hZ eT E
  obtain ⟨v, vm1, ⟨T', L, k, n⟩, -, X', ⟨L', hQ, e1, e2, e3⟩, st⟩ := X.virtualBack hx hown (mvT hZ w1) (mvT hZ w2) (notFace_of_selects (args := #[]) (mvT hZ w3)) (mvT hZ w3) (mvT hZ w4) hy hK qa qc hg hsize (Steps.refl _) hlen hstack hW hdg (fun _ _ => ⟨has, eT, hc, hs⟩)
  dsimp only [Pt.U, Pt.locs, Pt.cells, Pt.slots] at X' e1 e2 e3 st hQ
  subst e1 e2 e3
  exact ⟨v, T', L', X', hQ, fun _ k => st.trans k⟩
end Calls
section Arrays
variable {a : Addr} {k : ClassId} {ty : FieldType} {z : Int32} {vs : List Value} {dv : Value}
theorem own_alen (X : Stand p l e R s m args below meth c T locs cells slots) (hx : p.tables.exec = Jvm.exec) (hZ : Z.Warmed39 s.vm) (eT : T.heap = h) (V : Arv Z h a k ty z vs dv) {g : JFrame} (hg : g.method = m) {rest : List Value} (hs : g.stack = .ref a :: rest) (hd : decode c.code g.pc = .ok (.arraylength, 1)) {target : State}
    (hr : Steps p.tables e below (T.setTop { g with pc := g.pc + 1, stack := .int z :: rest }) target) : Steps p.tables e below (T.setTop g) target := by
  obtain ⟨cl, Ar, -, S, M, -, -⟩ := V
  refine X.arraylength hx (cell := cl) (by rw [eT]; exact Ar.1) (State.isArrayOf_alike hZ.alike Ar.2.1) hg hs hd _ ?_
  rw [len_of S M]; exact hr
theorem own_aald {C : String} (X : Stand p l e R s m args below meth c T locs cells slots) (hx : p.tables.exec = Jvm.exec) (hZ : Z.Warmed39 s.vm) (eT : T.heap = h) (V : Arv Z h a k (.object C) z vs dv) {j : Int32} (h1 : ¬ j < 0) (h2 : j < z) {g : JFrame} (hg : g.method = m) {rest : List Value} (hs : g.stack = .int j :: .ref a :: rest) (hd : decode c.code g.pc = .ok (.aaload, 1)) {target : State}
    (hr : Steps p.tables e below (T.setTop { g with pc := g.pc + 1, stack := vs.getD j.toNatClampNeg dv :: rest }) target) : Steps p.tables e below (T.setTop g) target := by
  obtain ⟨cl, Ar, -, S, M, H, -⟩ := V
  have hin := inb_of S ⟨h1, h2⟩
  exact X.aaload hx (j := j) (v := vs.getD j.toNatClampNeg dv) (by rw [eT]; exact Ar.1) (State.isArrayOf_alike hZ.alike Ar.2.1) rfl Ar.2.2 hin (Has.at H hin rfl) hg hs hd _ hr
end Arrays
/-- a body that returns r and leaves the heap as it was -/
def own_QP (r : Option Value) (h0 : Heap) (n0 : Nat) (v : Option Value) (h : Heap) (L : List Loc) : Prop := v = r ∧ Fr n0 L ∧ h = h0
end OwnKit
theorem d1_0 : decode jdk_29_method_65_code 0 = .ok (.iload_n 0, 1) := by decide +kernel
theorem d1_1 : decode jdk_29_method_65_code 1 = .ok (.iload_n 1, 1) := by decide +kernel
theorem d1_2 : decode jdk_29_method_65_code 2 = .ok (.if_icmp .lt 7, 3) := by decide +kernel
theorem d1_5 : decode jdk_29_method_65_code 5 = .ok (.iload_n 0, 1) := by decide +kernel
theorem d1_6 : decode jdk_29_method_65_code 6 = .ok (.goto 4, 3) := by decide +kernel
theorem d1_9 : decode jdk_29_method_65_code 9 = .ok (.iload_n 1, 1) := by decide +kernel
theorem d1_10 : decode jdk_29_method_65_code 10 = .ok (.ireturn, 1) := by decide +kernel
theorem pd0 : parseMethodDescriptor "(II)I" = some ⟨[.int, .int], some .int⟩ := by decide +kernel
theorem ef1 (m : MethodId) (i1 : Int32) (i2 : Int32) : entryFrame m #[(.int i1), (.int i2)] 2 = mkF m 0 #[.val (.int i1), .val (.int i2)] [] := by first | (simp [entryFrame, mkF, argsToLocals, Value.category]; done) | rfl
def f1 (i1 : Int32) (i2 : Int32) : Int32 := (if i1 < i2 then i2 else i1)
set_option maxRecDepth 65536 in
set_option maxHeartbeats 40000000 in
theorem rm1 (l : Launch) (Z : State) (a0 : Array Value) (hw : ∀ d ∈ tables_1, d.before a0 Z = true) (ws : List Jvm.Cond) (i1 : Int32) (i2 : Int32) (h0 : Heap) (n0 : Nat) (Z0 : n0 ≤ h0.size)  :
    own_Met l (⟨"java/lang/Math", "max", "(II)I"⟩ : MethodName) jdk_29_method_65_code 2 (some .int) ({ frames := 0, cells := 0, slots := 0, locals := 0 } : Room) ws #[(.int i1), (.int i2)] Z h0 0 0 (own_QP (some (.int (f1 i1 i2))) h0 n0) := by
  refine own_met (Jvm.Free.JP.mathPlain rfl (by decide +kernel)) ?_
  intro p e s m below meth c s₁ hx hby hml hown hnm hret hlk hZ e0 X0
  have hml : c.maxLocals = 2 := hml
  have N0 := Fr.nil n0
  have K0 := Keep.refl h0 []
  refine own_go (fun _ k => castTop (ef1 m i1 i2) k) ?_
  show own_Fin p.tables e below _ (s₁.setTop (mkF m 0 #[.val (.int i1), .val (.int i2)] []))
  refine own_go (fun _ k => XS.iloadN X0.here hx rfl (hb hby d1_0) rfl k) ?_
  show own_Fin p.tables e below _ (s₁.setTop (mkF m 1 #[.val (.int i1), .val (.int i2)] [(.int i1)]))
  refine own_go (fun _ k => XS.iloadN X0.here hx rfl (hb hby d1_1) rfl k) ?_
  show own_Fin p.tables e below _ (s₁.setTop (mkF m 2 #[.val (.int i1), .val (.int i2)] [(.int i2), (.int i1)]))
  by_cases hc1 : i1 < i2
  · refine own_go (fun _ k => XS.icmpYes X0.here hx rfl (pc0 := 2) (pc' := 9) rfl (hb hby d1_2) rfl (XT.ii_lt_t hc1) (by decide) (by decide) k) ?_
    show own_Fin p.tables e below _ (s₁.setTop (mkF m 9 #[.val (.int i1), .val (.int i2)] []))
    refine own_go (fun _ k => XS.iloadN X0.here hx rfl (hb hby d1_9) rfl k) ?_
    show own_Fin p.tables e below _ (s₁.setTop (mkF m 10 #[.val (.int i1), .val (.int i2)] [(.int i2)]))
    refine own_retI X0 hx hlk hret (hb hby d1_10) ?_ (by decide) (by decide)
    exact ⟨by rw [show f1 i1 i2 = i2 from by simp only [f1, if_pos hc1]] <;> rfl, N0, e0⟩
  · refine own_go (fun _ k => XS.icmpNo X0.here hx rfl (hb hby d1_2) rfl (XT.ii_lt_f hc1) k) ?_
    show own_Fin p.tables e below _ (s₁.setTop (mkF m 5 #[.val (.int i1), .val (.int i2)] []))
    refine own_go (fun _ k => XS.iloadN X0.here hx rfl (hb hby d1_5) rfl k) ?_
    show own_Fin p.tables e below _ (s₁.setTop (mkF m 6 #[.val (.int i1), .val (.int i2)] [(.int i1)]))
    refine own_go (fun _ k => XS.goto X0.here hx rfl (pc0 := 6) (pc' := 10) rfl (hb hby d1_6) (by decide) (by decide) k) ?_
    show own_Fin p.tables e below _ (s₁.setTop (mkF m 10 #[.val (.int i1), .val (.int i2)] [(.int i1)]))
    refine own_retI X0 hx hlk hret (hb hby d1_10) ?_ (by decide) (by decide)
    exact ⟨by rw [show f1 i1 i2 = i1 from by simp only [f1, if_neg hc1]] <;> rfl, N0, e0⟩
theorem d2_0 : decode jdk_30_method_1_code 0 = .ok (.aload_n 0, 1) := by decide +kernel
theorem d2_1 : decode jdk_30_method_1_code 1 = .ok (.invokespecial 1, 3) := by decide +kernel
theorem d2_4 : decode jdk_30_method_1_code 4 = .ok (.return_, 1) := by decide +kernel
theorem pn0 : plainName "java/lang/Record" = true := by first | (simp [plainName, overriddenIn]; done) | decide +kernel
theorem pd1 : parseMethodDescriptor "()V" = some ⟨[], none⟩ := by decide +kernel
theorem ef2 (m : MethodId) (r0 : Addr) : entryFrame m #[(.ref r0)] 1 = mkF m 0 #[.val (.ref r0)] [] := by first | (simp [entryFrame, mkF, argsToLocals, Value.category]; done) | rfl
set_option maxRecDepth 65536 in
set_option maxHeartbeats 40000000 in
theorem rm2 (l : Launch) (Z : State) (a0 : Array Value) (hw : ∀ d ∈ tables_1, d.before a0 Z = true) (ws : List Jvm.Cond) (r0 : Addr) (h0 : Heap) (n0 : Nat) (Z0 : n0 ≤ h0.size)  :
    own_Met l (⟨"java/lang/Record", "<init>", "()V"⟩ : MethodName) jdk_30_method_1_code 1 none ({ frames := 1, cells := 0, slots := 0, locals := 12 } : Room) ws #[(.ref r0)] Z h0 0 0 (own_QP none h0 n0) := by
  refine own_met (plainFor_of_name pn0) ?_
  intro p e s m below meth c s₁ hx hby hml hown hnm hret hlk hZ e0 X0
  have hml : c.maxLocals = 1 := hml
  have N0 := Fr.nil n0
  have K0 := Keep.refl h0 []
  refine own_go (fun _ k => castTop (ef2 m r0) k) ?_
  show own_Fin p.tables e below _ (s₁.setTop (mkF m 0 #[.val (.ref r0)] []))
  refine own_go (fun _ k => XS.aloadN X0.here hx rfl (hb hby d2_0) rfl rfl k) ?_
  show own_Fin p.tables e below _ (s₁.setTop (mkF m 1 #[.val (.ref r0)] [(.ref r0)]))
  obtain ⟨T1, X1, e1, st1⟩ := initO X0 hx hZ hown (hw _ (List.mem_of_getElem? (i := 17) rfl)) (hw _ (List.mem_of_getElem? (i := 18) rfl)) (hw _ (List.mem_of_getElem? (i := 19) rfl)) e0 (g := (mkF m 1 #[.val (.ref r0)] [(.ref r0)])) rfl (by rw [hml]; rfl) rfl (hb hby d2_1) (by decide) (W := 0) (by show 2 * 0 + _ ≤ _; exact Nat.le_of_eq rfl) (by decide)
  refine own_go st1 ?_
  show own_Fin p.tables e below _ (T1.setTop (mkF m 4 #[.val (.ref r0)] []))
  refine own_retV X1 hx hlk hret (hb hby d2_4) ?_ (by decide) (by decide)
  exact ⟨rfl, N0, e1⟩
theorem d3_0 : decode prog_10_method_1_code 0 = .ok (.aload_n 0, 1) := by decide +kernel
theorem d3_1 : decode prog_10_method_1_code 1 = .ok (.invokespecial 1, 3) := by decide +kernel
theorem d3_4 : decode prog_10_method_1_code 4 = .ok (.iload_n 1, 1) := by decide +kernel
theorem d3_5 : decode prog_10_method_1_code 5 = .ok (.iconst 1, 1) := by decide +kernel
theorem d3_6 : decode prog_10_method_1_code 6 = .ok (.if_icmp .lt 8, 3) := by decide +kernel
theorem d3_9 : decode prog_10_method_1_code 9 = .ok (.iload_n 2, 1) := by decide +kernel
theorem d3_10 : decode prog_10_method_1_code 10 = .ok (.iconst 1, 1) := by decide +kernel
theorem d3_11 : decode prog_10_method_1_code 11 = .ok (.if_icmp .ge 18, 3) := by decide +kernel
theorem d3_29 : decode prog_10_method_1_code 29 = .ok (.aload_n 0, 1) := by decide +kernel
theorem d3_30 : decode prog_10_method_1_code 30 = .ok (.iload_n 1, 1) := by decide +kernel
theorem d3_31 : decode prog_10_method_1_code 31 = .ok (.putfield 16, 3) := by decide +kernel
theorem d3_34 : decode prog_10_method_1_code 34 = .ok (.aload_n 0, 1) := by decide +kernel
theorem d3_35 : decode prog_10_method_1_code 35 = .ok (.iload_n 2, 1) := by decide +kernel
theorem d3_36 : decode prog_10_method_1_code 36 = .ok (.putfield 22, 3) := by decide +kernel
theorem d3_39 : decode prog_10_method_1_code 39 = .ok (.return_, 1) := by decide +kernel
theorem pn1 : plainName "com/example/tremorgrid/tremorgrid/analysis/SlidingWindows" = true := by first | (simp [plainName, overriddenIn]; done) | decide +kernel
theorem pd2 : parseMethodDescriptor "(II)V" = some ⟨[.int, .int], none⟩ := by decide +kernel
theorem ef3 (m : MethodId) (r0 : Addr) (i1 : Int32) (i2 : Int32) : entryFrame m #[(.ref r0), (.int i1), (.int i2)] 3 = mkF m 0 #[.val (.ref r0), .val (.int i1), .val (.int i2)] [] := by first | (simp [entryFrame, mkF, argsToLocals, Value.category]; done) | rfl
set_option maxRecDepth 65536 in
set_option maxHeartbeats 40000000 in
theorem rm3 (l : Launch) (Z : State) (a0 : Array Value) (hw : ∀ d ∈ tables_1, d.before a0 Z = true) (ws : List Jvm.Cond) (r0 : Addr) (i1 : Int32) (i2 : Int32) (u_length : Value) (u_step : Value) (h0 : Heap) (n0 : Nat) (Z0 : n0 ≤ h0.size) (E_a : Exa Z h0 r0 "com/example/tremorgrid/tremorgrid/analysis/SlidingWindows") (F_length : Fld Z h0 r0 "com/example/tremorgrid/tremorgrid/analysis/SlidingWindows" "length" "I" u_length) (F_step : Fld Z h0 r0 "com/example/tremorgrid/tremorgrid/analysis/SlidingWindows" "step" "I" u_step) (g_a : n0 ≤ r0) (hA : ¬ i1 < (1 : Int32)) (hB : ¬ i2 < (1 : Int32)) :
    own_Met l (⟨"com/example/tremorgrid/tremorgrid/analysis/SlidingWindows", "<init>", "(II)V"⟩ : MethodName) prog_10_method_1_code 3 none ({ frames := 2, cells := 0, slots := 0, locals := 24 } : Room) ws #[(.ref r0), (.int i1), (.int i2)] Z h0 0 0 (fun v h L => v = none ∧ Fr n0 L ∧ Keep h0 h [r0] ∧ Exa Z h r0 "com/example/tremorgrid/tremorgrid/analysis/SlidingWindows" ∧ Fld Z h r0 "com/example/tremorgrid/tremorgrid/analysis/SlidingWindows" "length" "I" (.int i1) ∧ Fld Z h r0 "com/example/tremorgrid/tremorgrid/analysis/SlidingWindows" "step" "I" (.int i2)) := by
  refine own_met (plainFor_of_name pn1) ?_
  intro p e s m below meth c s₁ hx hby hml hown hnm hret hlk hZ e0 X0
  have hml : c.maxLocals = 3 := hml
  have N0 := Fr.nil n0
  have K0 := Keep.refl h0 [r0]
  refine own_go (fun _ k => castTop (ef3 m r0 i1 i2) k) ?_
  show own_Fin p.tables e below _ (s₁.setTop (mkF m 0 #[.val (.ref r0), .val (.int i1), .val (.int i2)] []))
  refine own_go (fun _ k => XS.aloadN X0.here hx rfl (hb hby d3_0) rfl rfl k) ?_
  show own_Fin p.tables e below _ (s₁.setTop (mkF m 1 #[.val (.ref r0), .val (.int i1), .val (.int i2)] [(.ref r0)]))
  obtain ⟨_, T1, L1, X1, ⟨rfl, M1, e1⟩, st1⟩ := own_callC X0 hx hZ hown rfl (hw _ (List.mem_of_getElem? (i := 12) rfl)) (hw _ (List.mem_of_getElem? (i := 13) rfl)) (hw _ (List.mem_of_getElem? (i := 15) rfl)) (hw _ (List.mem_of_getElem? (i := 16) rfl)) (by decide) (W := 0) (rm2 l Z a0 hw [] r0 h0 n0 (Nat.le_trans Z0 K0.1) ) (by decide) (by decide) e0 (g := (mkF m 1 #[.val (.ref r0), .val (.int i1), .val (.int i2)] [(.ref r0)])) rfl (by rw [hml]; rfl) (argsL := []) (rest := []) rfl (lenOf pd1 rfl) rfl (by show 2 * 0 + _ ≤ _; exact Nat.le_of_eq rfl) (hb hby d3_1) (by decide) (by decide)
  have N1 := Fr.app N0 M1
  refine own_go st1 ?_
  show own_Fin p.tables e below _ (T1.setTop (mkF m 4 #[.val (.ref r0), .val (.int i1), .val (.int i2)] []))
  refine own_go (fun _ k => XS.iloadN X1.here hx rfl (hb hby d3_4) rfl k) ?_
  show own_Fin p.tables e below _ (T1.setTop (mkF m 5 #[.val (.ref r0), .val (.int i1), .val (.int i2)] [(.int i1)]))
  refine own_go (fun _ k => XT.iconstV X1.here hx rfl (1 : Int32) (hb hby d3_5) (by decide) k) ?_
  show own_Fin p.tables e below _ (T1.setTop (mkF m 6 #[.val (.ref r0), .val (.int i1), .val (.int i2)] [(.int (1 : Int32)), (.int i1)]))
  refine own_go (fun _ k => XS.icmpNo X1.here hx rfl (hb hby d3_6) rfl (XT.ii_lt_f hA) k) ?_
  show own_Fin p.tables e below _ (T1.setTop (mkF m 9 #[.val (.ref r0), .val (.int i1), .val (.int i2)] []))
  refine own_go (fun _ k => XS.iloadN X1.here hx rfl (hb hby d3_9) rfl k) ?_
  show own_Fin p.tables e below _ (T1.setTop (mkF m 10 #[.val (.ref r0), .val (.int i1), .val (.int i2)] [(.int i2)]))
  refine own_go (fun _ k => XT.iconstV X1.here hx rfl (1 : Int32) (hb hby d3_10) (by decide) k) ?_
  show own_Fin p.tables e below _ (T1.setTop (mkF m 11 #[.val (.ref r0), .val (.int i1), .val (.int i2)] [(.int (1 : Int32)), (.int i2)]))
  refine own_go (fun _ k => XS.icmpYes X1.here hx rfl (pc0 := 11) (pc' := 29) rfl (hb hby d3_11) rfl (XT.ii_ge_t hB) (by decide) (by decide) k) ?_
  show own_Fin p.tables e below _ (T1.setTop (mkF m 29 #[.val (.ref r0), .val (.int i1), .val (.int i2)] []))
  refine own_go (fun _ k => XS.aloadN X1.here hx rfl (hb hby d3_29) rfl rfl k) ?_
  show own_Fin p.tables e below _ (T1.setTop (mkF m 30 #[.val (.ref r0), .val (.int i1), .val (.int i2)] [(.ref r0)]))
  refine own_go (fun _ k => XS.iloadN X1.here hx rfl (hb hby d3_30) rfl k) ?_
  show own_Fin p.tables e below _ (T1.setTop (mkF m 31 #[.val (.ref r0), .val (.int i1), .val (.int i2)] [(.int i1), (.ref r0)]))
  obtain ⟨T2, h2, X2, e2, W2, st2⟩ := putF X1 hx hZ hown (host := "") (Or.inl (hw _ (List.mem_of_getElem? (i := 20) rfl))) Via.refl e1 F_length E_a (Or.inr ⟨(hw _ (List.mem_of_getElem? (i := 21) rfl)), rfl, hnm⟩) (hw _ (List.mem_of_getElem? (i := 7) rfl)) (ty := .int) (by decide) rfl rfl (g := (mkF m 31 #[.val (.ref r0), .val (.int i1), .val (.int i2)] [(.int i1), (.ref r0)])) rfl rfl (hb hby d3_31)
  have K2 := K0.wr W2 (Or.inl (List.mem_of_getElem? (i := 0) rfl))
  have N2 := Fr.snoc X2 N1 g_a
  have Er0_2 := E_a.wr W2
  have Fr0_length_2 := F_length.same W2
  have Fr0_step_2 := F_step.other W2 (Or.inr (slot_ne (Or.inr (hw _ (List.mem_of_getElem? (i := 23) rfl))) (Or.inr (hw _ (List.mem_of_getElem? (i := 21) rfl))) (by decide) (t := .int) (t' := .int) (by decide) (by decide)))
  refine own_go st2 ?_
  show own_Fin p.tables e below _ (T2.setTop (mkF m 34 #[.val (.ref r0), .val (.int i1), .val (.int i2)] []))
  refine own_go (fun _ k => XS.aloadN X2.here hx rfl (hb hby d3_34) rfl rfl k) ?_
  show own_Fin p.tables e below _ (T2.setTop (mkF m 35 #[.val (.ref r0), .val (.int i1), .val (.int i2)] [(.ref r0)]))
  refine own_go (fun _ k => XS.iloadN X2.here hx rfl (hb hby d3_35) rfl k) ?_
  show own_Fin p.tables e below _ (T2.setTop (mkF m 36 #[.val (.ref r0), .val (.int i1), .val (.int i2)] [(.int i2), (.ref r0)]))
  obtain ⟨T3, h3, X3, e3, W3, st3⟩ := putF X2 hx hZ hown (host := "") (Or.inl (hw _ (List.mem_of_getElem? (i := 22) rfl))) Via.refl e2 Fr0_step_2 Er0_2 (Or.inr ⟨(hw _ (List.mem_of_getElem? (i := 23) rfl)), rfl, hnm⟩) (hw _ (List.mem_of_getElem? (i := 7) rfl)) (ty := .int) (by decide) rfl rfl (g := (mkF m 36 #[.val (.ref r0), .val (.int i1), .val (.int i2)] [(.int i2), (.ref r0)])) rfl rfl (hb hby d3_36)
  have K3 := K2.wr W3 (Or.inl (List.mem_of_getElem? (i := 0) rfl))
  have N3 := Fr.snoc X3 N2 g_a
  have Er0_3 := Er0_2.wr W3
  have Fr0_length_3 := Fr0_length_2.other W3 (Or.inr (slot_ne (Or.inr (hw _ (List.mem_of_getElem? (i := 21) rfl))) (Or.inr (hw _ (List.mem_of_getElem? (i := 23) rfl))) (by decide) (t := .int) (t' := .int) (by decide) (by decide)))
  have Fr0_step_3 := Fr0_step_2.same W3
  refine own_go st3 ?_
  show own_Fin p.tables e below _ (T3.setTop (mkF m 39 #[.val (.ref r0), .val (.int i1), .val (.int i2)] []))
  refine own_retV X3 hx hlk hret (hb hby d3_39) ?_ (by decide) (by decide)
  show _ ∧ _ ∧ Keep h0 T3.heap _ ∧ _
  rw [e3]
  exact ⟨rfl, N3, K3, Er0_3, Fr0_length_3, Fr0_step_3⟩
theorem d4_0 : decode prog_10_method_2_code 0 = .ok (.lload_n 1, 1) := by decide +kernel
theorem d4_1 : decode prog_10_method_2_code 1 = .ok (.lconst 0, 1) := by decide +kernel
theorem d4_2 : decode prog_10_method_2_code 2 = .ok (.lcmp, 1) := by decide +kernel
theorem d4_3 : decode prog_10_method_2_code 3 = .ok (.ifCond .ge 17, 3) := by decide +kernel
theorem d4_20 : decode prog_10_method_2_code 20 = .ok (.lload_n 1, 1) := by decide +kernel
theorem d4_21 : decode prog_10_method_2_code 21 = .ok (.aload_n 0, 1) := by decide +kernel
theorem d4_22 : decode prog_10_method_2_code 22 = .ok (.getfield 16, 3) := by decide +kernel
theorem d4_25 : decode prog_10_method_2_code 25 = .ok (.i2l, 1) := by decide +kernel
theorem d4_26 : decode prog_10_method_2_code 26 = .ok (.lcmp, 1) := by decide +kernel
theorem d4_27 : decode prog_10_method_2_code 27 = .ok (.ifCond .ge 7, 3) := by decide +kernel
theorem d4_30 : decode prog_10_method_2_code 30 = .ok (.lconst 0, 1) := by decide +kernel
theorem d4_31 : decode prog_10_method_2_code 31 = .ok (.goto 18, 3) := by decide +kernel
theorem d4_34 : decode prog_10_method_2_code 34 = .ok (.lload_n 1, 1) := by decide +kernel
theorem d4_35 : decode prog_10_method_2_code 35 = .ok (.aload_n 0, 1) := by decide +kernel
theorem d4_36 : decode prog_10_method_2_code 36 = .ok (.getfield 16, 3) := by decide +kernel
theorem d4_39 : decode prog_10_method_2_code 39 = .ok (.i2l, 1) := by decide +kernel
theorem d4_40 : decode prog_10_method_2_code 40 = .ok (.lsub, 1) := by decide +kernel
theorem d4_41 : decode prog_10_method_2_code 41 = .ok (.aload_n 0, 1) := by decide +kernel
theorem d4_42 : decode prog_10_method_2_code 42 = .ok (.getfield 22, 3) := by decide +kernel
theorem d4_45 : decode prog_10_method_2_code 45 = .ok (.i2l, 1) := by decide +kernel
theorem d4_46 : decode prog_10_method_2_code 46 = .ok (.ldiv, 1) := by decide +kernel
theorem d4_47 : decode prog_10_method_2_code 47 = .ok (.lconst 1, 1) := by decide +kernel
theorem d4_48 : decode prog_10_method_2_code 48 = .ok (.ladd, 1) := by decide +kernel
theorem d4_49 : decode prog_10_method_2_code 49 = .ok (.lreturn, 1) := by decide +kernel
theorem pd3 : parseMethodDescriptor "(J)J" = some ⟨[.long], some .long⟩ := by decide +kernel
theorem ef4 (m : MethodId) (r0 : Addr) (j1 : Int64) : entryFrame m #[(.ref r0), (.long j1)] 3 = mkF m 0 #[.val (.ref r0), .val (.long j1), .second] [] := by first | (simp [entryFrame, mkF, argsToLocals, Value.category]; done) | rfl
def f4 (j1 : Int64) (i8 : Int32) (i9 : Int32) : Int64 := (if j1 < (i8.toInt64) then (0 : Int64) else (((j1 - (i8.toInt64)) / (i9.toInt64)) + (1 : Int64)))
set_option maxRecDepth 65536 in
set_option maxHeartbeats 40000000 in
theorem rm4 (l : Launch) (Z : State) (a0 : Array Value) (hw : ∀ d ∈ tables_1, d.before a0 Z = true) (ws : List Jvm.Cond) (r0 : Addr) (j1 : Int64) (h0 : Heap) (n0 : Nat) (Z0 : n0 ≤ h0.size) (i8 : Int32) (i9 : Int32) (F1 : Fld Z h0 r0 "com/example/tremorgrid/tremorgrid/analysis/SlidingWindows" "length" "I" (.int i8)) (F2 : Fld Z h0 r0 "com/example/tremorgrid/tremorgrid/analysis/SlidingWindows" "step" "I" (.int i9)) (hA : ¬ j1 < (0 : Int64)) (hB : i9.toInt64 ≠ 0) :
    own_Met l (⟨"com/example/tremorgrid/tremorgrid/analysis/SlidingWindows", "count", "(J)J"⟩ : MethodName) prog_10_method_2_code 3 (some .long) ({ frames := 0, cells := 0, slots := 0, locals := 0 } : Room) ws #[(.ref r0), (.long j1)] Z h0 0 0 (own_QP (some (.long (f4 j1 i8 i9))) h0 n0) := by
  refine own_met (plainFor_of_name pn1) ?_
  intro p e s m below meth c s₁ hx hby hml hown hnm hret hlk hZ e0 X0
  have hml : c.maxLocals = 3 := hml
  have N0 := Fr.nil n0
  have K0 := Keep.refl h0 []
  refine own_go (fun _ k => castTop (ef4 m r0 j1) k) ?_
  show own_Fin p.tables e below _ (s₁.setTop (mkF m 0 #[.val (.ref r0), .val (.long j1), .second] []))
  refine own_go (fun _ k => XT.lloadN X0.here hx rfl (hb hby d4_0) rfl k) ?_
  show own_Fin p.tables e below _ (s₁.setTop (mkF m 1 #[.val (.ref r0), .val (.long j1), .second] [(.long j1)]))
  refine own_go (fun _ k => XT.lconstV X0.here hx rfl (0 : Int64) (hb hby d4_1) (by decide) k) ?_
  show own_Fin p.tables e below _ (s₁.setTop (mkF m 2 #[.val (.ref r0), .val (.long j1), .second] [(.long (0 : Int64)), (.long j1)]))
  refine own_go (fun _ k => XT.lcmp X0.here hx rfl (hb hby d4_2) rfl k) ?_
  show own_Fin p.tables e below _ (s₁.setTop (mkF m 3 #[.val (.ref r0), .val (.long j1), .second] [(.int (XT.cmpL j1 (0 : Int64)))]))
  refine own_go (fun _ k => XS.ifYes X0.here hx rfl (pc0 := 3) (pc' := 20) rfl (hb hby d4_3) rfl (XT.ll_ge_t hA) (by decide) (by decide) k) ?_
  show own_Fin p.tables e below _ (s₁.setTop (mkF m 20 #[.val (.ref r0), .val (.long j1), .second] []))
  refine own_go (fun _ k => XT.lloadN X0.here hx rfl (hb hby d4_20) rfl k) ?_
  show own_Fin p.tables e below _ (s₁.setTop (mkF m 21 #[.val (.ref r0), .val (.long j1), .second] [(.long j1)]))
  refine own_go (fun _ k => XS.aloadN X0.here hx rfl (hb hby d4_21) rfl rfl k) ?_
  show own_Fin p.tables e below _ (s₁.setTop (mkF m 22 #[.val (.ref r0), .val (.long j1), .second] [(.ref r0), (.long j1)]))
  obtain ⟨T1, X1, e1, st1⟩ := getF X0 hx hZ hown (host := "") (Or.inl (hw _ (List.mem_of_getElem? (i := 20) rfl))) Via.refl e0 F1 (g := (mkF m 22 #[.val (.ref r0), .val (.long j1), .second] [(.ref r0), (.long j1)])) rfl rfl (hb hby d4_22)
  refine own_go st1 ?_
  show own_Fin p.tables e below _ (T1.setTop (mkF m 25 #[.val (.ref r0), .val (.long j1), .second] [(.int i8), (.long j1)]))
  refine own_go (fun _ k => XT.i2l X1.here hx rfl (hb hby d4_25) rfl k) ?_
  show own_Fin p.tables e below _ (T1.setTop (mkF m 26 #[.val (.ref r0), .val (.long j1), .second] [(.long (i8.toInt64)), (.long j1)]))
  refine own_go (fun _ k => XT.lcmp X1.here hx rfl (hb hby d4_26) rfl k) ?_
  show own_Fin p.tables e below _ (T1.setTop (mkF m 27 #[.val (.ref r0), .val (.long j1), .second] [(.int (XT.cmpL j1 (i8.toInt64)))]))
  by_cases hc2 : j1 < (i8.toInt64)
  · refine own_go (fun _ k => XS.ifNo X1.here hx rfl (hb hby d4_27) rfl (XT.ll_ge_f hc2) k) ?_
    show own_Fin p.tables e below _ (T1.setTop (mkF m 30 #[.val (.ref r0), .val (.long j1), .second] []))
    refine own_go (fun _ k => XT.lconstV X1.here hx rfl (0 : Int64) (hb hby d4_30) (by decide) k) ?_
    show own_Fin p.tables e below _ (T1.setTop (mkF m 31 #[.val (.ref r0), .val (.long j1), .second] [(.long (0 : Int64))]))
    refine own_go (fun _ k => XS.goto X1.here hx rfl (pc0 := 31) (pc' := 49) rfl (hb hby d4_31) (by decide) (by decide) k) ?_
    show own_Fin p.tables e below _ (T1.setTop (mkF m 49 #[.val (.ref r0), .val (.long j1), .second] [(.long (0 : Int64))]))
    refine own_retJ X1 hx hlk hret (hb hby d4_49) ?_ (by decide) (by decide)
    exact ⟨by rw [show f4 j1 i8 i9 = (0 : Int64) from by simp only [f4, if_pos hc2]] <;> rfl, N0, e1⟩
  · refine own_go (fun _ k => XS.ifYes X1.here hx rfl (pc0 := 27) (pc' := 34) rfl (hb hby d4_27) rfl (XT.ll_ge_t hc2) (by decide) (by decide) k) ?_
    show own_Fin p.tables e below _ (T1.setTop (mkF m 34 #[.val (.ref r0), .val (.long j1), .second] []))
    refine own_go (fun _ k => XT.lloadN X1.here hx rfl (hb hby d4_34) rfl k) ?_
    show own_Fin p.tables e below _ (T1.setTop (mkF m 35 #[.val (.ref r0), .val (.long j1), .second] [(.long j1)]))
    refine own_go (fun _ k => XS.aloadN X1.here hx rfl (hb hby d4_35) rfl rfl k) ?_
    show own_Fin p.tables e below _ (T1.setTop (mkF m 36 #[.val (.ref r0), .val (.long j1), .second] [(.ref r0), (.long j1)]))
    obtain ⟨T3, X3, e3, st3⟩ := getF X1 hx hZ hown (host := "") (Or.inl (hw _ (List.mem_of_getElem? (i := 20) rfl))) Via.refl e1 F1 (g := (mkF m 36 #[.val (.ref r0), .val (.long j1), .second] [(.ref r0), (.long j1)])) rfl rfl (hb hby d4_36)
    refine own_go st3 ?_
    show own_Fin p.tables e below _ (T3.setTop (mkF m 39 #[.val (.ref r0), .val (.long j1), .second] [(.int i8), (.long j1)]))
    refine own_go (fun _ k => XT.i2l X3.here hx rfl (hb hby d4_39) rfl k) ?_
    show own_Fin p.tables e below _ (T3.setTop (mkF m 40 #[.val (.ref r0), .val (.long j1), .second] [(.long (i8.toInt64)), (.long j1)]))
    refine own_go (fun _ k => XT.lsub X3.here hx rfl (hb hby d4_40) rfl k) ?_
    show own_Fin p.tables e below _ (T3.setTop (mkF m 41 #[.val (.ref r0), .val (.long j1), .second] [(.long (j1 - (i8.toInt64)))]))
    refine own_go (fun _ k => XS.aloadN X3.here hx rfl (hb hby d4_41) rfl rfl k) ?_
    show own_Fin p.tables e below _ (T3.setTop (mkF m 42 #[.val (.ref r0), .val (.long j1), .second] [(.ref r0), (.long (j1 - (i8.toInt64)))]))
    obtain ⟨T4, X4, e4, st4⟩ := getF X3 hx hZ hown (host := "") (Or.inl (hw _ (List.mem_of_getElem? (i := 22) rfl))) Via.refl e3 F2 (g := (mkF m 42 #[.val (.ref r0), .val (.long j1), .second] [(.ref r0), (.long (j1 - (i8.toInt64)))])) rfl rfl (hb hby d4_42)
    refine own_go st4 ?_
    show own_Fin p.tables e below _ (T4.setTop (mkF m 45 #[.val (.ref r0), .val (.long j1), .second] [(.int i9), (.long (j1 - (i8.toInt64)))]))
    refine own_go (fun _ k => XT.i2l X4.here hx rfl (hb hby d4_45) rfl k) ?_
    show own_Fin p.tables e below _ (T4.setTop (mkF m 46 #[.val (.ref r0), .val (.long j1), .second] [(.long (i9.toInt64)), (.long (j1 - (i8.toInt64)))]))
    refine own_go (fun _ k => XT.ldiv X4.here hx rfl (hb hby d4_46) rfl hB k) ?_
    show own_Fin p.tables e below _ (T4.setTop (mkF m 47 #[.val (.ref r0), .val (.long j1), .second] [(.long ((j1 - (i8.toInt64)) / (i9.toInt64)))]))
    refine own_go (fun _ k => XT.lconstV X4.here hx rfl (1 : Int64) (hb hby d4_47) (by decide) k) ?_
    show own_Fin p.tables e below _ (T4.setTop (mkF m 48 #[.val (.ref r0), .val (.long j1), .second] [(.long (1 : Int64)), (.long ((j1 - (i8.toInt64)) / (i9.toInt64)))]))
    refine own_go (fun _ k => XT.ladd X4.here hx rfl (hb hby d4_48) rfl k) ?_
    show own_Fin p.tables e below _ (T4.setTop (mkF m 49 #[.val (.ref r0), .val (.long j1), .second] [(.long (((j1 - (i8.toInt64)) / (i9.toInt64)) + (1 : Int64)))]))
    refine own_retJ X4 hx hlk hret (hb hby d4_49) ?_ (by decide) (by decide)
    exact ⟨by rw [show f4 j1 i8 i9 = (((j1 - (i8.toInt64)) / (i9.toInt64)) + (1 : Int64)) from by simp only [f4, if_neg hc2]] <;> rfl, N0, e4⟩
def own_len (i1 : Int32) : Int32 := f1 (1 : Int32) (i1 &&& (2147483647 : Int32))
theorem own_len_rng (i1 : Int32) : 1 ≤ (own_len i1).toInt ∧ (own_len i1).toInt ≤ 2147483647 := by
  have h1 : (i1 &&& 2147483647).toInt = i1.toInt % (2 ^ 31 : Nat) := c_mask i1 2147483647 31 (by decide) (by decide)
  unfold own_len f1
  split
  · rename_i h; rw [Int32.lt_iff_toInt_lt] at h
    have h' : (1 : Int32).toInt = 1 := rfl
    rw [h'] at h; omega
  · decide
theorem own_len_lo (i1 : Int32) : ¬ own_len i1 < (1 : Int32) := by
  have := own_len_rng i1
  rw [Int32.lt_iff_toInt_lt]; show ¬ (own_len i1).toInt < 1; omega
theorem own_len_ne (i1 : Int32) : (own_len i1).toInt64 ≠ 0 := by
  have := own_len_rng i1
  intro h
  have h2 := congrArg Int64.toInt h
  rw [Int32.toInt_toInt64] at h2
  have h3 : (0 : Int64).toInt = 0 := rfl
  omega
def own_smp (j1 : Int64) : Int64 := j1 &&& (9223372036854775807 : Int64)
theorem own_smp_lo (j1 : Int64) : ¬ own_smp j1 < (0 : Int64) := by
  unfold own_smp
  rw [XT.and_neg64]
  intro h
  exact absurd h.2 (by decide)
theorem pn2 : plainName "com/example/tremorgrid/tremorgrid/analysis/SlidingWindowsCountPinLaw" = true := by first | (simp [plainName, overriddenIn]; done) | decide +kernel
theorem pd4 : parseMethodDescriptor "(JII)Z" = some ⟨[.long, .int, .int], some .boolean⟩ := by decide +kernel
theorem ef0 (m : MethodId) (j1 : Int64) (i1 : Int32) (i2 : Int32) : entryFrame m #[(.long j1), (.int i1), (.int i2)] maxLocals = mkF m 0 #[.val (.long j1), .second, .val (.int i1), .val (.int i2), .unset, .unset, .unset, .unset, .unset, .unset, .unset, .unset, .unset, .unset, .unset, .unset] [] := by first | (simp [entryFrame, mkF, argsToLocals, Value.category, maxLocals]; done) | rfl
def f0 (j1 : Int64) (i1 : Int32) (i2 : Int32) : Int32 := (if (own_smp j1) < ((own_len i1).toInt64) then (if (f4 (own_smp j1) (own_len i1) (own_len i2)) = (0 : Int64) then (1 : Int32) else (0 : Int32)) else (if (f4 (own_smp j1) (own_len i1) (own_len i2)) < (1 : Int64) then (0 : Int32) else (if ((9223372036854775807 : Int64) / ((own_len i2).toInt64)) < ((f4 (own_smp j1) (own_len i1) (own_len i2)) - (1 : Int64)) then (0 : Int32) else (if (((own_smp j1) - ((own_len i1).toInt64)) - (((f4 (own_smp j1) (own_len i1) (own_len i2)) - (1 : Int64)) * ((own_len i2).toInt64))) < (0 : Int64) then (0 : Int32) else (if (((own_smp j1) - ((own_len i1).toInt64)) - (((f4 (own_smp j1) (own_len i1) (own_len i2)) - (1 : Int64)) * ((own_len i2).toInt64))) < ((own_len i2).toInt64) then (1 : Int32) else (0 : Int32))))))
theorem own_law (j1 : Int64) (i1 i2 : Int32) : f0 j1 i1 i2 = 1 := by
  have hl := own_len_rng i1
  have hs := own_len_rng i2
  have hn := own_smp_lo j1
  unfold f0 f4
  generalize own_smp j1 = S at *
  generalize own_len i1 = L at *
  generalize own_len i2 = D at *
  rw [XT.negI64] at hn
  have hS := S.toInt_lt
  have eL : L.toInt64.toInt = L.toInt := Int32.toInt_toInt64 L
  have eD : D.toInt64.toInt = D.toInt := Int32.toInt_toInt64 D
  by_cases h1 : S < L.toInt64
  · simp only [if_pos h1]; rfl
  · have h1' := h1
    rw [Int64.lt_iff_toInt_lt, eL] at h1'
    simp only [if_neg h1]
    have e1 : (S - L.toInt64).toInt = S.toInt - L.toInt := by rw [XT.sub64 (by rw [eL]; constructor <;> omega), eL]
    have hroom : 0 ≤ S.toInt - L.toInt := by omega
    have e2 : ((S - L.toInt64) / D.toInt64).toInt = (S.toInt - L.toInt) / D.toInt := by
      rw [Int64.toInt_div, e1, eD, Int.tdiv_eq_ediv_of_nonneg hroom, XT.bmod64]
      have := Int.ediv_le_self (D.toInt) hroom
      have := Int.ediv_nonneg hroom (show 0 ≤ D.toInt by omega)
      constructor <;> omega
    have hq0 := Int.ediv_nonneg hroom (show 0 ≤ D.toInt by omega)
    have hq1 := Int.ediv_le_self (D.toInt) hroom
    have hm1 := Int.ediv_mul_le (S.toInt - L.toInt) (show D.toInt ≠ 0 by omega)
    have hm2 := Int.lt_ediv_add_one_mul_self (S.toInt - L.toInt) (show 0 < D.toInt by omega)
    have hone : (1 : Int64).toInt = 1 := rfl
    have e3 : ((S - L.toInt64) / D.toInt64 + 1).toInt = (S.toInt - L.toInt) / D.toInt + 1 := by
      rw [XT.add64 (by rw [e2, hone]; constructor <;> omega), e2, hone]
    have e4 : ((S - L.toInt64) / D.toInt64 + 1 - 1) = (S - L.toInt64) / D.toInt64 := by
      apply Int64.toInt_inj.mp
      rw [XT.sub64 (by rw [e3, hone]; constructor <;> omega), e3, e2, hone]; omega
    have h2 : ¬ ((S - L.toInt64) / D.toInt64 + 1 < (1 : Int64)) := by
      rw [Int64.lt_iff_toInt_lt, e3, hone]; omega
    rw [if_neg h2, e4]
    generalize hQ : (S.toInt - L.toInt) / D.toInt = q at *
    have emax : (9223372036854775807 / D.toInt64 : Int64).toInt = 9223372036854775807 / D.toInt := by
      have hmx : (9223372036854775807 : Int64).toInt = 9223372036854775807 := by decide
      have hp : (0:Int) ≤ 9223372036854775807 := by decide
      rw [Int64.toInt_div, hmx, eD, Int.tdiv_eq_ediv_of_nonneg hp, XT.bmod64]
      have := Int.ediv_le_self (D.toInt) hp
      have := Int.ediv_nonneg hp (show 0 ≤ D.toInt by omega)
      constructor <;> omega
    have h3 : ¬ ((9223372036854775807 / D.toInt64 : Int64) < (S - L.toInt64) / D.toInt64) := by
      rw [Int64.lt_iff_toInt_lt, e2, emax]
      have := Int.ediv_le_ediv (show 0 < D.toInt by omega) (show S.toInt - L.toInt ≤ 9223372036854775807 by omega)
      omega
    rw [if_neg h3]
    have hmul : 0 ≤ q * D.toInt := Int.mul_nonneg hq0 (by omega)
    have e5 : ((S - L.toInt64) / D.toInt64 * D.toInt64).toInt = q * D.toInt := by
      rw [XT.mul64 (by rw [e2, eD]; constructor <;> omega), e2, eD]
    have e6 : (S - L.toInt64 - (S - L.toInt64) / D.toInt64 * D.toInt64).toInt = S.toInt - L.toInt - q * D.toInt := by
      rw [XT.sub64 (by rw [e1, e5]; constructor <;> omega), e1, e5]
    have h4 : ¬ (S - L.toInt64 - (S - L.toInt64) / D.toInt64 * D.toInt64 < (0 : Int64)) := by
      rw [XT.negI64, e6]; omega
    have h5 : S - L.toInt64 - (S - L.toInt64) / D.toInt64 * D.toInt64 < D.toInt64 := by
      rw [Int64.lt_iff_toInt_lt, e6, eD]
      rw [Int.add_mul] at hm2; omega
    rw [if_neg h4, if_pos h5]
set_option maxRecDepth 65536 in
set_option maxHeartbeats 40000000 in
theorem rm0 (l : Launch) (Z : State) (a0 : Array Value) (hw : ∀ d ∈ tables_1, d.before a0 Z = true) (ws : List Jvm.Cond) (j1 : Int64) (i1 : Int32) (i2 : Int32) (h0 : Heap) (n0 : Nat) (Z0 : n0 ≤ h0.size)  :
    own_Met l x code maxLocals ret room_1 ws #[(.long j1), (.int i1), (.int i2)] Z h0 16 128 (fun v h L => v = some (.int (f0 j1 i1 i2)) ∧ Fr n0 L) := by
  refine own_met (plainFor_of_name pn2) ?_
  intro p e s m below meth c s₁ hx hby hml hown hnm hret hlk hZ e0 X0
  have hml : c.maxLocals = 16 := hml
  have N0 := Fr.nil n0
  have K0 := Keep.refl h0 []
  refine own_go (fun _ k => castTop (ef0 m j1 i1 i2) k) ?_
  show own_Fin p.tables e below _ (s₁.setTop (mkF m 0 #[.val (.long j1), .second, .val (.int i1), .val (.int i2), .unset, .unset, .unset, .unset, .unset, .unset, .unset, .unset, .unset, .unset, .unset, .unset] []))
  refine own_go (fun _ k => XT.lloadN X0.here hx rfl (hb hby at_0) rfl k) ?_
  show own_Fin p.tables e below _ (s₁.setTop (mkF m 1 #[.val (.long j1), .second, .val (.int i1), .val (.int i2), .unset, .unset, .unset, .unset, .unset, .unset, .unset, .unset, .unset, .unset, .unset, .unset] [(.long j1)]))
  refine own_go (fun _ k => X0.ldc2J hx hown (mvT hZ (hw _ (List.mem_of_getElem? (i := 0) rfl))) rfl (hb hby at_1) k) ?_
  show own_Fin p.tables e below _ (s₁.setTop (mkF m 4 #[.val (.long j1), .second, .val (.int i1), .val (.int i2), .unset, .unset, .unset, .unset, .unset, .unset, .unset, .unset, .unset, .unset, .unset, .unset] [(.long (9223372036854775807 : Int64)), (.long j1)]))
  refine own_go (fun _ k => XT.land X0.here hx rfl (hb hby at_4) rfl k) ?_
  show own_Fin p.tables e below _ (s₁.setTop (mkF m 5 #[.val (.long j1), .second, .val (.int i1), .val (.int i2), .unset, .unset, .unset, .unset, .unset, .unset, .unset, .unset, .unset, .unset, .unset, .unset] [(.long (j1 &&& (9223372036854775807 : Int64)))]))
  refine own_go (fun _ k => XT.lstore X0.here hx rfl (hb hby at_5) rfl (l' := #[.val (.long j1), .second, .val (.int i1), .val (.int i2), .val (.long (own_smp j1)), .second, .unset, .unset, .unset, .unset, .unset, .unset, .unset, .unset, .unset, .unset]) rfl k) ?_
  show own_Fin p.tables e below _ (s₁.setTop (mkF m 7 #[.val (.long j1), .second, .val (.int i1), .val (.int i2), .val (.long (own_smp j1)), .second, .unset, .unset, .unset, .unset, .unset, .unset, .unset, .unset, .unset, .unset] []))
  refine own_go (fun _ k => XT.iconstV X0.here hx rfl (1 : Int32) (hb hby at_7) (by decide) k) ?_
  show own_Fin p.tables e below _ (s₁.setTop (mkF m 8 #[.val (.long j1), .second, .val (.int i1), .val (.int i2), .val (.long (own_smp j1)), .second, .unset, .unset, .unset, .unset, .unset, .unset, .unset, .unset, .unset, .unset] [(.int (1 : Int32))]))
  refine own_go (fun _ k => XS.iloadN X0.here hx rfl (hb hby at_8) rfl k) ?_
  show own_Fin p.tables e below _ (s₁.setTop (mkF m 9 #[.val (.long j1), .second, .val (.int i1), .val (.int i2), .val (.long (own_smp j1)), .second, .unset, .unset, .unset, .unset, .unset, .unset, .unset, .unset, .unset, .unset] [(.int i1), (.int (1 : Int32))]))
  refine own_go (fun _ k => X0.ldcI hx hown (mvT hZ (hw _ (List.mem_of_getElem? (i := 1) rfl))) rfl (hb hby at_9) k) ?_
  show own_Fin p.tables e below _ (s₁.setTop (mkF m 11 #[.val (.long j1), .second, .val (.int i1), .val (.int i2), .val (.long (own_smp j1)), .second, .unset, .unset, .unset, .unset, .unset, .unset, .unset, .unset, .unset, .unset] [(.int (2147483647 : Int32)), (.int i1), (.int (1 : Int32))]))
  refine own_go (fun _ k => XS.iand X0.here hx rfl (hb hby at_11) rfl k) ?_
  show own_Fin p.tables e below _ (s₁.setTop (mkF m 12 #[.val (.long j1), .second, .val (.int i1), .val (.int i2), .val (.long (own_smp j1)), .second, .unset, .unset, .unset, .unset, .unset, .unset, .unset, .unset, .unset, .unset] [(.int (i1 &&& (2147483647 : Int32))), (.int (1 : Int32))]))
  obtain ⟨_, T1, L1, X1, ⟨rfl, M1, e1⟩, st1⟩ := own_callS X0 hx hZ hown (hw _ (List.mem_of_getElem? (i := 2) rfl)) (hw _ (List.mem_of_getElem? (i := 3) rfl)) (hw _ (List.mem_of_getElem? (i := 4) rfl)) (hw _ (List.mem_of_getElem? (i := 5) rfl)) (by decide) (W := 0) (rm1 l Z a0 hw [] (1 : Int32) (i1 &&& (2147483647 : Int32)) h0 n0 (Nat.le_trans Z0 K0.1) ) (by decide) (by decide) e0 (g := (mkF m 12 #[.val (.long j1), .second, .val (.int i1), .val (.int i2), .val (.long (own_smp j1)), .second, .unset, .unset, .unset, .unset, .unset, .unset, .unset, .unset, .unset, .unset] [(.int (i1 &&& (2147483647 : Int32))), (.int (1 : Int32))])) rfl (by rw [hml]; rfl) (argsL := [(.int (1 : Int32)), (.int (i1 &&& (2147483647 : Int32)))]) (rest := []) rfl (lenOf pd0 rfl) rfl (by show 2 * 0 + _ ≤ _; exact Nat.le_of_eq rfl) (hb hby at_12) (by decide) (by decide)
  have N1 := Fr.app N0 M1
  refine own_go st1 ?_
  show own_Fin p.tables e below _ (T1.setTop (mkF m 15 #[.val (.long j1), .second, .val (.int i1), .val (.int i2), .val (.long (own_smp j1)), .second, .unset, .unset, .unset, .unset, .unset, .unset, .unset, .unset, .unset, .unset] [(.int (f1 (1 : Int32) (i1 &&& (2147483647 : Int32))))]))
  refine own_go (fun _ k => XS.istore X1.here hx rfl (hb hby at_15) rfl (l' := #[.val (.long j1), .second, .val (.int i1), .val (.int i2), .val (.long (own_smp j1)), .second, .val (.int (own_len i1)), .unset, .unset, .unset, .unset, .unset, .unset, .unset, .unset, .unset]) rfl k) ?_
  show own_Fin p.tables e below _ (T1.setTop (mkF m 17 #[.val (.long j1), .second, .val (.int i1), .val (.int i2), .val (.long (own_smp j1)), .second, .val (.int (own_len i1)), .unset, .unset, .unset, .unset, .unset, .unset, .unset, .unset, .unset] []))
  refine own_go (fun _ k => XT.iconstV X1.here hx rfl (1 : Int32) (hb hby at_17) (by decide) k) ?_
  show own_Fin p.tables e below _ (T1.setTop (mkF m 18 #[.val (.long j1), .second, .val (.int i1), .val (.int i2), .val (.long (own_smp j1)), .second, .val (.int (own_len i1)), .unset, .unset, .unset, .unset, .unset, .unset, .unset, .unset, .unset] [(.int (1 : Int32))]))
  refine own_go (fun _ k => XS.iloadN X1.here hx rfl (hb hby at_18) rfl k) ?_
  show own_Fin p.tables e below _ (T1.setTop (mkF m 19 #[.val (.long j1), .second, .val (.int i1), .val (.int i2), .val (.long (own_smp j1)), .second, .val (.int (own_len i1)), .unset, .unset, .unset, .unset, .unset, .unset, .unset, .unset, .unset] [(.int i2), (.int (1 : Int32))]))
  refine own_go (fun _ k => X1.ldcI hx hown (mvT hZ (hw _ (List.mem_of_getElem? (i := 1) rfl))) rfl (hb hby at_19) k) ?_
  show own_Fin p.tables e below _ (T1.setTop (mkF m 21 #[.val (.long j1), .second, .val (.int i1), .val (.int i2), .val (.long (own_smp j1)), .second, .val (.int (own_len i1)), .unset, .unset, .unset, .unset, .unset, .unset, .unset, .unset, .unset] [(.int (2147483647 : Int32)), (.int i2), (.int (1 : Int32))]))
  refine own_go (fun _ k => XS.iand X1.here hx rfl (hb hby at_21) rfl k) ?_
  show own_Fin p.tables e below _ (T1.setTop (mkF m 22 #[.val (.long j1), .second, .val (.int i1), .val (.int i2), .val (.long (own_smp j1)), .second, .val (.int (own_len i1)), .unset, .unset, .unset, .unset, .unset, .unset, .unset, .unset, .unset] [(.int (i2 &&& (2147483647 : Int32))), (.int (1 : Int32))]))
  obtain ⟨_, T2, L2, X2, ⟨rfl, M2, e2⟩, st2⟩ := own_callS X1 hx hZ hown (hw _ (List.mem_of_getElem? (i := 2) rfl)) (hw _ (List.mem_of_getElem? (i := 3) rfl)) (hw _ (List.mem_of_getElem? (i := 4) rfl)) (hw _ (List.mem_of_getElem? (i := 5) rfl)) (by decide) (W := 0) (rm1 l Z a0 hw [] (1 : Int32) (i2 &&& (2147483647 : Int32)) h0 n0 (Nat.le_trans Z0 K0.1) ) (by decide) (by decide) e1 (g := (mkF m 22 #[.val (.long j1), .second, .val (.int i1), .val (.int i2), .val (.long (own_smp j1)), .second, .val (.int (own_len i1)), .unset, .unset, .unset, .unset, .unset, .unset, .unset, .unset, .unset] [(.int (i2 &&& (2147483647 : Int32))), (.int (1 : Int32))])) rfl (by rw [hml]; rfl) (argsL := [(.int (1 : Int32)), (.int (i2 &&& (2147483647 : Int32)))]) (rest := []) rfl (lenOf pd0 rfl) rfl (by show 2 * 0 + _ ≤ _; exact Nat.le_of_eq rfl) (hb hby at_22) (by decide) (by decide)
  have N2 := Fr.app N1 M2
  refine own_go st2 ?_
  show own_Fin p.tables e below _ (T2.setTop (mkF m 25 #[.val (.long j1), .second, .val (.int i1), .val (.int i2), .val (.long (own_smp j1)), .second, .val (.int (own_len i1)), .unset, .unset, .unset, .unset, .unset, .unset, .unset, .unset, .unset] [(.int (f1 (1 : Int32) (i2 &&& (2147483647 : Int32))))]))
  refine own_go (fun _ k => XS.istore X2.here hx rfl (hb hby at_25) rfl (l' := #[.val (.long j1), .second, .val (.int i1), .val (.int i2), .val (.long (own_smp j1)), .second, .val (.int (own_len i1)), .val (.int (own_len i2)), .unset, .unset, .unset, .unset, .unset, .unset, .unset, .unset]) rfl k) ?_
  show own_Fin p.tables e below _ (T2.setTop (mkF m 27 #[.val (.long j1), .second, .val (.int i1), .val (.int i2), .val (.long (own_smp j1)), .second, .val (.int (own_len i1)), .val (.int (own_len i2)), .unset, .unset, .unset, .unset, .unset, .unset, .unset, .unset] []))
  obtain ⟨T3, h3, X3, e3, E3, A3, D3, -, st3⟩ := newO X2 hx hZ hown (hw _ (List.mem_of_getElem? (i := 6) rfl)) (hw _ (List.mem_of_getElem? (i := 7) rfl)) (hw _ (List.mem_of_getElem? (i := 8) rfl)) e2 (g := (mkF m 27 #[.val (.long j1), .second, .val (.int i1), .val (.int i2), .val (.long (own_smp j1)), .second, .val (.int (own_len i1)), .val (.int (own_len i2)), .unset, .unset, .unset, .unset, .unset, .unset, .unset, .unset] [])) rfl (hb hby at_27) (by decide) (by decide)
  obtain ⟨a3, g3⟩ : ∃ z, z = h0.size := ⟨_, rfl⟩
  rw [← g3] at A3 D3 st3
  have q3 : h0.size ≤ a3 := Nat.le_trans K0.1 (Nat.le_of_eq g3.symm)
  have z3 : n0 ≤ a3 := Nat.le_trans Z0 q3
  have K3 := K0.ext E3
  have Fa3_length : Fld Z h3 a3 "com/example/tremorgrid/tremorgrid/analysis/SlidingWindows" "length" "I" (.int (0 : Int32)) := D3 (Or.inr (hw _ (List.mem_of_getElem? (i := 21) rfl))) (ty := .int) (by decide)
  have Fa3_step : Fld Z h3 a3 "com/example/tremorgrid/tremorgrid/analysis/SlidingWindows" "step" "I" (.int (0 : Int32)) := D3 (Or.inr (hw _ (List.mem_of_getElem? (i := 23) rfl))) (ty := .int) (by decide)
  refine own_go st3 ?_
  show own_Fin p.tables e below _ (T3.setTop (mkF m 30 #[.val (.long j1), .second, .val (.int i1), .val (.int i2), .val (.long (own_smp j1)), .second, .val (.int (own_len i1)), .val (.int (own_len i2)), .unset, .unset, .unset, .unset, .unset, .unset, .unset, .unset] [(.ref a3)]))
  refine own_go (fun _ k => XS.dup X3.here hx rfl (hb hby at_30) rfl rfl k) ?_
  show own_Fin p.tables e below _ (T3.setTop (mkF m 31 #[.val (.long j1), .second, .val (.int i1), .val (.int i2), .val (.long (own_smp j1)), .second, .val (.int (own_len i1)), .val (.int (own_len i2)), .unset, .unset, .unset, .unset, .unset, .unset, .unset, .unset] [(.ref a3), (.ref a3)]))
  refine own_go (fun _ k => XS.iload X3.here hx rfl (hb hby at_31) rfl k) ?_
  show own_Fin p.tables e below _ (T3.setTop (mkF m 33 #[.val (.long j1), .second, .val (.int i1), .val (.int i2), .val (.long (own_smp j1)), .second, .val (.int (own_len i1)), .val (.int (own_len i2)), .unset, .unset, .unset, .unset, .unset, .unset, .unset, .unset] [(.int (own_len i1)), (.ref a3), (.ref a3)]))
  refine own_go (fun _ k => XS.iload X3.here hx rfl (hb hby at_33) rfl k) ?_
  show own_Fin p.tables e below _ (T3.setTop (mkF m 35 #[.val (.long j1), .second, .val (.int i1), .val (.int i2), .val (.long (own_smp j1)), .second, .val (.int (own_len i1)), .val (.int (own_len i2)), .unset, .unset, .unset, .unset, .unset, .unset, .unset, .unset] [(.int (own_len i2)), (.int (own_len i1)), (.ref a3), (.ref a3)]))
  obtain ⟨_, T4, L4, X4, ⟨rfl, M4, KK4, -, G4_length, G4_step⟩, st4⟩ := own_callC X3 hx hZ hown rfl (hw _ (List.mem_of_getElem? (i := 9) rfl)) (hw _ (List.mem_of_getElem? (i := 10) rfl)) (hw _ (List.mem_of_getElem? (i := 8) rfl)) (hw _ (List.mem_of_getElem? (i := 11) rfl)) (by decide) (W := 1) (rm3 l Z a0 hw [] a3 (own_len i1) (own_len i2) (.int (0 : Int32)) (.int (0 : Int32)) h3 n0 (Nat.le_trans Z0 K3.1) A3 Fa3_length Fa3_step z3 (own_len_lo i1) (own_len_lo i2)) (by decide) (by decide) e3 (g := (mkF m 35 #[.val (.long j1), .second, .val (.int i1), .val (.int i2), .val (.long (own_smp j1)), .second, .val (.int (own_len i1)), .val (.int (own_len i2)), .unset, .unset, .unset, .unset, .unset, .unset, .unset, .unset] [(.int (own_len i2)), (.int (own_len i1)), (.ref a3), (.ref a3)])) rfl (by rw [hml]; rfl) (argsL := [(.int (own_len i1)), (.int (own_len i2))]) (rest := [(.ref a3)]) rfl (lenOf pd2 rfl) rfl (by show 2 * 0 + _ ≤ _; exact Nat.le_of_eq rfl) (hb hby at_35) (by decide) (by decide)
  have N4 := Fr.app N2 M4
  have Ea3_4 := A3.keep KK4
  have K4 := K3.trans KK4 (allS (Or.inr q3) all0)
  refine own_go st4 ?_
  show own_Fin p.tables e below _ (T4.setTop (mkF m 38 #[.val (.long j1), .second, .val (.int i1), .val (.int i2), .val (.long (own_smp j1)), .second, .val (.int (own_len i1)), .val (.int (own_len i2)), .unset, .unset, .unset, .unset, .unset, .unset, .unset, .unset] [(.ref a3)]))
  refine own_go (fun _ k => XT.lload X4.here hx rfl (hb hby at_38) rfl k) ?_
  show own_Fin p.tables e below _ (T4.setTop (mkF m 40 #[.val (.long j1), .second, .val (.int i1), .val (.int i2), .val (.long (own_smp j1)), .second, .val (.int (own_len i1)), .val (.int (own_len i2)), .unset, .unset, .unset, .unset, .unset, .unset, .unset, .unset] [(.long (own_smp j1)), (.ref a3)]))
  obtain ⟨_, T5, L5, X5, ⟨rfl, M5, e5⟩, st5⟩ := own_callV X4 hx hZ hown (hw _ (List.mem_of_getElem? (i := 24) rfl)) (hw _ (List.mem_of_getElem? (i := 25) rfl)) (hw _ (List.mem_of_getElem? (i := 27) rfl)) (hw _ (List.mem_of_getElem? (i := 26) rfl)) (hw _ (List.mem_of_getElem? (i := 8) rfl)) (hw _ (List.mem_of_getElem? (i := 28) rfl)) (by decide) (W := 0) (rm4 l Z a0 hw [] a3 (own_smp j1) T4.heap n0 (Nat.le_trans Z0 K4.1) (own_len i1) (own_len i2) G4_length G4_step (own_smp_lo j1) (own_len_ne i2)) (by decide) (by decide) rfl Ea3_4 (g := (mkF m 40 #[.val (.long j1), .second, .val (.int i1), .val (.int i2), .val (.long (own_smp j1)), .second, .val (.int (own_len i1)), .val (.int (own_len i2)), .unset, .unset, .unset, .unset, .unset, .unset, .unset, .unset] [(.long (own_smp j1)), (.ref a3)])) rfl (by rw [hml]; rfl) (argsL := [(.long (own_smp j1))]) (rest := []) rfl (lenOf pd3 rfl) rfl (by show 2 * 0 + _ ≤ _; exact Nat.le_of_eq rfl) (hb hby at_40) (by decide) (by decide)
  have N5 := Fr.app N4 M5
  refine own_go st5 ?_
  show own_Fin p.tables e below _ (T5.setTop (mkF m 43 #[.val (.long j1), .second, .val (.int i1), .val (.int i2), .val (.long (own_smp j1)), .second, .val (.int (own_len i1)), .val (.int (own_len i2)), .unset, .unset, .unset, .unset, .unset, .unset, .unset, .unset] [(.long (f4 (own_smp j1) (own_len i1) (own_len i2)))]))
  refine own_go (fun _ k => XT.lstore X5.here hx rfl (hb hby at_43) rfl (l' := #[.val (.long j1), .second, .val (.int i1), .val (.int i2), .val (.long (own_smp j1)), .second, .val (.int (own_len i1)), .val (.int (own_len i2)), .val (.long (f4 (own_smp j1) (own_len i1) (own_len i2))), .second, .unset, .unset, .unset, .unset, .unset, .unset]) rfl k) ?_
  show own_Fin p.tables e below _ (T5.setTop (mkF m 45 #[.val (.long j1), .second, .val (.int i1), .val (.int i2), .val (.long (own_smp j1)), .second, .val (.int (own_len i1)), .val (.int (own_len i2)), .val (.long (f4 (own_smp j1) (own_len i1) (own_len i2))), .second, .unset, .unset, .unset, .unset, .unset, .unset] []))
  refine own_go (fun _ k => XT.lload X5.here hx rfl (hb hby at_45) rfl k) ?_
  show own_Fin p.tables e below _ (T5.setTop (mkF m 47 #[.val (.long j1), .second, .val (.int i1), .val (.int i2), .val (.long (own_smp j1)), .second, .val (.int (own_len i1)), .val (.int (own_len i2)), .val (.long (f4 (own_smp j1) (own_len i1) (own_len i2))), .second, .unset, .unset, .unset, .unset, .unset, .unset] [(.long (own_smp j1))]))
  refine own_go (fun _ k => XS.iload X5.here hx rfl (hb hby at_47) rfl k) ?_
  show own_Fin p.tables e below _ (T5.setTop (mkF m 49 #[.val (.long j1), .second, .val (.int i1), .val (.int i2), .val (.long (own_smp j1)), .second, .val (.int (own_len i1)), .val (.int (own_len i2)), .val (.long (f4 (own_smp j1) (own_len i1) (own_len i2))), .second, .unset, .unset, .unset, .unset, .unset, .unset] [(.int (own_len i1)), (.long (own_smp j1))]))
  refine own_go (fun _ k => XT.i2l X5.here hx rfl (hb hby at_49) rfl k) ?_
  show own_Fin p.tables e below _ (T5.setTop (mkF m 50 #[.val (.long j1), .second, .val (.int i1), .val (.int i2), .val (.long (own_smp j1)), .second, .val (.int (own_len i1)), .val (.int (own_len i2)), .val (.long (f4 (own_smp j1) (own_len i1) (own_len i2))), .second, .unset, .unset, .unset, .unset, .unset, .unset] [(.long ((own_len i1).toInt64)), (.long (own_smp j1))]))
  refine own_go (fun _ k => XT.lcmp X5.here hx rfl (hb hby at_50) rfl k) ?_
  show own_Fin p.tables e below _ (T5.setTop (mkF m 51 #[.val (.long j1), .second, .val (.int i1), .val (.int i2), .val (.long (own_smp j1)), .second, .val (.int (own_len i1)), .val (.int (own_len i2)), .val (.long (f4 (own_smp j1) (own_len i1) (own_len i2))), .second, .unset, .unset, .unset, .unset, .unset, .unset] [(.int (XT.cmpL (own_smp j1) ((own_len i1).toInt64)))]))
  by_cases hc6 : (own_smp j1) < ((own_len i1).toInt64)
  · refine own_go (fun _ k => XS.ifNo X5.here hx rfl (hb hby at_51) rfl (XT.ll_ge_f hc6) k) ?_
    show own_Fin p.tables e below _ (T5.setTop (mkF m 54 #[.val (.long j1), .second, .val (.int i1), .val (.int i2), .val (.long (own_smp j1)), .second, .val (.int (own_len i1)), .val (.int (own_len i2)), .val (.long (f4 (own_smp j1) (own_len i1) (own_len i2))), .second, .unset, .unset, .unset, .unset, .unset, .unset] []))
    refine own_go (fun _ k => XT.lload X5.here hx rfl (hb hby at_54) rfl k) ?_
    show own_Fin p.tables e below _ (T5.setTop (mkF m 56 #[.val (.long j1), .second, .val (.int i1), .val (.int i2), .val (.long (own_smp j1)), .second, .val (.int (own_len i1)), .val (.int (own_len i2)), .val (.long (f4 (own_smp j1) (own_len i1) (own_len i2))), .second, .unset, .unset, .unset, .unset, .unset, .unset] [(.long (f4 (own_smp j1) (own_len i1) (own_len i2)))]))
    refine own_go (fun _ k => XT.lconstV X5.here hx rfl (0 : Int64) (hb hby at_56) (by decide) k) ?_
    show own_Fin p.tables e below _ (T5.setTop (mkF m 57 #[.val (.long j1), .second, .val (.int i1), .val (.int i2), .val (.long (own_smp j1)), .second, .val (.int (own_len i1)), .val (.int (own_len i2)), .val (.long (f4 (own_smp j1) (own_len i1) (own_len i2))), .second, .unset, .unset, .unset, .unset, .unset, .unset] [(.long (0 : Int64)), (.long (f4 (own_smp j1) (own_len i1) (own_len i2)))]))
    refine own_go (fun _ k => XT.lcmp X5.here hx rfl (hb hby at_57) rfl k) ?_
    show own_Fin p.tables e below _ (T5.setTop (mkF m 58 #[.val (.long j1), .second, .val (.int i1), .val (.int i2), .val (.long (own_smp j1)), .second, .val (.int (own_len i1)), .val (.int (own_len i2)), .val (.long (f4 (own_smp j1) (own_len i1) (own_len i2))), .second, .unset, .unset, .unset, .unset, .unset, .unset] [(.int (XT.cmpL (f4 (own_smp j1) (own_len i1) (own_len i2)) (0 : Int64)))]))
    by_cases hc7 : (f4 (own_smp j1) (own_len i1) (own_len i2)) = (0 : Int64)
    · refine own_go (fun _ k => XS.ifNo X5.here hx rfl (hb hby at_58) rfl (XT.ll_ne_f hc7) k) ?_
      show own_Fin p.tables e below _ (T5.setTop (mkF m 61 #[.val (.long j1), .second, .val (.int i1), .val (.int i2), .val (.long (own_smp j1)), .second, .val (.int (own_len i1)), .val (.int (own_len i2)), .val (.long (f4 (own_smp j1) (own_len i1) (own_len i2))), .second, .unset, .unset, .unset, .unset, .unset, .unset] []))
      refine own_go (fun _ k => XT.iconstV X5.here hx rfl (1 : Int32) (hb hby at_61) (by decide) k) ?_
      show own_Fin p.tables e below _ (T5.setTop (mkF m 62 #[.val (.long j1), .second, .val (.int i1), .val (.int i2), .val (.long (own_smp j1)), .second, .val (.int (own_len i1)), .val (.int (own_len i2)), .val (.long (f4 (own_smp j1) (own_len i1) (own_len i2))), .second, .unset, .unset, .unset, .unset, .unset, .unset] [(.int (1 : Int32))]))
      refine own_go (fun _ k => XS.goto X5.here hx rfl (pc0 := 62) (pc' := 66) rfl (hb hby at_62) (by decide) (by decide) k) ?_
      show own_Fin p.tables e below _ (T5.setTop (mkF m 66 #[.val (.long j1), .second, .val (.int i1), .val (.int i2), .val (.long (own_smp j1)), .second, .val (.int (own_len i1)), .val (.int (own_len i2)), .val (.long (f4 (own_smp j1) (own_len i1) (own_len i2))), .second, .unset, .unset, .unset, .unset, .unset, .unset] [(.int (1 : Int32))]))
      refine own_retN X5 hx hlk (t := .boolean) hret (by simp) (hb hby at_66) ?_ (by decide) (by decide)
      exact ⟨by rw [show f0 j1 i1 i2 = (1 : Int32) from by simp only [f0, if_pos hc6, if_pos hc7]] <;> rfl, N5⟩
    · refine own_go (fun _ k => XS.ifYes X5.here hx rfl (pc0 := 58) (pc' := 65) rfl (hb hby at_58) rfl (XT.ll_ne_t hc7) (by decide) (by decide) k) ?_
      show own_Fin p.tables e below _ (T5.setTop (mkF m 65 #[.val (.long j1), .second, .val (.int i1), .val (.int i2), .val (.long (own_smp j1)), .second, .val (.int (own_len i1)), .val (.int (own_len i2)), .val (.long (f4 (own_smp j1) (own_len i1) (own_len i2))), .second, .unset, .unset, .unset, .unset, .unset, .unset] []))
      refine own_go (fun _ k => XT.iconstV X5.here hx rfl (0 : Int32) (hb hby at_65) (by decide) k) ?_
      show own_Fin p.tables e below _ (T5.setTop (mkF m 66 #[.val (.long j1), .second, .val (.int i1), .val (.int i2), .val (.long (own_smp j1)), .second, .val (.int (own_len i1)), .val (.int (own_len i2)), .val (.long (f4 (own_smp j1) (own_len i1) (own_len i2))), .second, .unset, .unset, .unset, .unset, .unset, .unset] [(.int (0 : Int32))]))
      refine own_retN X5 hx hlk (t := .boolean) hret (by simp) (hb hby at_66) ?_ (by decide) (by decide)
      exact ⟨by rw [show f0 j1 i1 i2 = (0 : Int32) from by simp only [f0, if_pos hc6, if_neg hc7]] <;> rfl, N5⟩
  · refine own_go (fun _ k => XS.ifYes X5.here hx rfl (pc0 := 51) (pc' := 67) rfl (hb hby at_51) rfl (XT.ll_ge_t hc6) (by decide) (by decide) k) ?_
    show own_Fin p.tables e below _ (T5.setTop (mkF m 67 #[.val (.long j1), .second, .val (.int i1), .val (.int i2), .val (.long (own_smp j1)), .second, .val (.int (own_len i1)), .val (.int (own_len i2)), .val (.long (f4 (own_smp j1) (own_len i1) (own_len i2))), .second, .unset, .unset, .unset, .unset, .unset, .unset] []))
    refine own_go (fun _ k => XT.lload X5.here hx rfl (hb hby at_67) rfl k) ?_
    show own_Fin p.tables e below _ (T5.setTop (mkF m 69 #[.val (.long j1), .second, .val (.int i1), .val (.int i2), .val (.long (own_smp j1)), .second, .val (.int (own_len i1)), .val (.int (own_len i2)), .val (.long (f4 (own_smp j1) (own_len i1) (own_len i2))), .second, .unset, .unset, .unset, .unset, .unset, .unset] [(.long (f4 (own_smp j1) (own_len i1) (own_len i2)))]))
    refine own_go (fun _ k => XT.lconstV X5.here hx rfl (1 : Int64) (hb hby at_69) (by decide) k) ?_
    show own_Fin p.tables e below _ (T5.setTop (mkF m 70 #[.val (.long j1), .second, .val (.int i1), .val (.int i2), .val (.long (own_smp j1)), .second, .val (.int (own_len i1)), .val (.int (own_len i2)), .val (.long (f4 (own_smp j1) (own_len i1) (own_len i2))), .second, .unset, .unset, .unset, .unset, .unset, .unset] [(.long (1 : Int64)), (.long (f4 (own_smp j1) (own_len i1) (own_len i2)))]))
    refine own_go (fun _ k => XT.lcmp X5.here hx rfl (hb hby at_70) rfl k) ?_
    show own_Fin p.tables e below _ (T5.setTop (mkF m 71 #[.val (.long j1), .second, .val (.int i1), .val (.int i2), .val (.long (own_smp j1)), .second, .val (.int (own_len i1)), .val (.int (own_len i2)), .val (.long (f4 (own_smp j1) (own_len i1) (own_len i2))), .second, .unset, .unset, .unset, .unset, .unset, .unset] [(.int (XT.cmpL (f4 (own_smp j1) (own_len i1) (own_len i2)) (1 : Int64)))]))
    by_cases hc8 : (f4 (own_smp j1) (own_len i1) (own_len i2)) < (1 : Int64)
    · refine own_go (fun _ k => XS.ifNo X5.here hx rfl (hb hby at_71) rfl (XT.ll_ge_f hc8) k) ?_
      show own_Fin p.tables e below _ (T5.setTop (mkF m 74 #[.val (.long j1), .second, .val (.int i1), .val (.int i2), .val (.long (own_smp j1)), .second, .val (.int (own_len i1)), .val (.int (own_len i2)), .val (.long (f4 (own_smp j1) (own_len i1) (own_len i2))), .second, .unset, .unset, .unset, .unset, .unset, .unset] []))
      refine own_go (fun _ k => XT.iconstV X5.here hx rfl (0 : Int32) (hb hby at_74) (by decide) k) ?_
      show own_Fin p.tables e below _ (T5.setTop (mkF m 75 #[.val (.long j1), .second, .val (.int i1), .val (.int i2), .val (.long (own_smp j1)), .second, .val (.int (own_len i1)), .val (.int (own_len i2)), .val (.long (f4 (own_smp j1) (own_len i1) (own_len i2))), .second, .unset, .unset, .unset, .unset, .unset, .unset] [(.int (0 : Int32))]))
      refine own_retN X5 hx hlk (t := .boolean) hret (by simp) (hb hby at_75) ?_ (by decide) (by decide)
      exact ⟨by rw [show f0 j1 i1 i2 = (0 : Int32) from by simp only [f0, if_neg hc6, if_pos hc8]] <;> rfl, N5⟩
    · refine own_go (fun _ k => XS.ifYes X5.here hx rfl (pc0 := 71) (pc' := 76) rfl (hb hby at_71) rfl (XT.ll_ge_t hc8) (by decide) (by decide) k) ?_
      show own_Fin p.tables e below _ (T5.setTop (mkF m 76 #[.val (.long j1), .second, .val (.int i1), .val (.int i2), .val (.long (own_smp j1)), .second, .val (.int (own_len i1)), .val (.int (own_len i2)), .val (.long (f4 (own_smp j1) (own_len i1) (own_len i2))), .second, .unset, .unset, .unset, .unset, .unset, .unset] []))
      refine own_go (fun _ k => XT.lload X5.here hx rfl (hb hby at_76) rfl k) ?_
      show own_Fin p.tables e below _ (T5.setTop (mkF m 78 #[.val (.long j1), .second, .val (.int i1), .val (.int i2), .val (.long (own_smp j1)), .second, .val (.int (own_len i1)), .val (.int (own_len i2)), .val (.long (f4 (own_smp j1) (own_len i1) (own_len i2))), .second, .unset, .unset, .unset, .unset, .unset, .unset] [(.long (f4 (own_smp j1) (own_len i1) (own_len i2)))]))
      refine own_go (fun _ k => XT.lconstV X5.here hx rfl (1 : Int64) (hb hby at_78) (by decide) k) ?_
      show own_Fin p.tables e below _ (T5.setTop (mkF m 79 #[.val (.long j1), .second, .val (.int i1), .val (.int i2), .val (.long (own_smp j1)), .second, .val (.int (own_len i1)), .val (.int (own_len i2)), .val (.long (f4 (own_smp j1) (own_len i1) (own_len i2))), .second, .unset, .unset, .unset, .unset, .unset, .unset] [(.long (1 : Int64)), (.long (f4 (own_smp j1) (own_len i1) (own_len i2)))]))
      refine own_go (fun _ k => XT.lsub X5.here hx rfl (hb hby at_79) rfl k) ?_
      show own_Fin p.tables e below _ (T5.setTop (mkF m 80 #[.val (.long j1), .second, .val (.int i1), .val (.int i2), .val (.long (own_smp j1)), .second, .val (.int (own_len i1)), .val (.int (own_len i2)), .val (.long (f4 (own_smp j1) (own_len i1) (own_len i2))), .second, .unset, .unset, .unset, .unset, .unset, .unset] [(.long ((f4 (own_smp j1) (own_len i1) (own_len i2)) - (1 : Int64)))]))
      refine own_go (fun _ k => XT.lstore X5.here hx rfl (hb hby at_80) rfl (l' := #[.val (.long j1), .second, .val (.int i1), .val (.int i2), .val (.long (own_smp j1)), .second, .val (.int (own_len i1)), .val (.int (own_len i2)), .val (.long (f4 (own_smp j1) (own_len i1) (own_len i2))), .second, .val (.long ((f4 (own_smp j1) (own_len i1) (own_len i2)) - (1 : Int64))), .second, .unset, .unset, .unset, .unset]) rfl k) ?_
      show own_Fin p.tables e below _ (T5.setTop (mkF m 82 #[.val (.long j1), .second, .val (.int i1), .val (.int i2), .val (.long (own_smp j1)), .second, .val (.int (own_len i1)), .val (.int (own_len i2)), .val (.long (f4 (own_smp j1) (own_len i1) (own_len i2))), .second, .val (.long ((f4 (own_smp j1) (own_len i1) (own_len i2)) - (1 : Int64))), .second, .unset, .unset, .unset, .unset] []))
      refine own_go (fun _ k => XT.lload X5.here hx rfl (hb hby at_82) rfl k) ?_
      show own_Fin p.tables e below _ (T5.setTop (mkF m 84 #[.val (.long j1), .second, .val (.int i1), .val (.int i2), .val (.long (own_smp j1)), .second, .val (.int (own_len i1)), .val (.int (own_len i2)), .val (.long (f4 (own_smp j1) (own_len i1) (own_len i2))), .second, .val (.long ((f4 (own_smp j1) (own_len i1) (own_len i2)) - (1 : Int64))), .second, .unset, .unset, .unset, .unset] [(.long (own_smp j1))]))
      refine own_go (fun _ k => XS.iload X5.here hx rfl (hb hby at_84) rfl k) ?_
      show own_Fin p.tables e below _ (T5.setTop (mkF m 86 #[.val (.long j1), .second, .val (.int i1), .val (.int i2), .val (.long (own_smp j1)), .second, .val (.int (own_len i1)), .val (.int (own_len i2)), .val (.long (f4 (own_smp j1) (own_len i1) (own_len i2))), .second, .val (.long ((f4 (own_smp j1) (own_len i1) (own_len i2)) - (1 : Int64))), .second, .unset, .unset, .unset, .unset] [(.int (own_len i1)), (.long (own_smp j1))]))
      refine own_go (fun _ k => XT.i2l X5.here hx rfl (hb hby at_86) rfl k) ?_
      show own_Fin p.tables e below _ (T5.setTop (mkF m 87 #[.val (.long j1), .second, .val (.int i1), .val (.int i2), .val (.long (own_smp j1)), .second, .val (.int (own_len i1)), .val (.int (own_len i2)), .val (.long (f4 (own_smp j1) (own_len i1) (own_len i2))), .second, .val (.long ((f4 (own_smp j1) (own_len i1) (own_len i2)) - (1 : Int64))), .second, .unset, .unset, .unset, .unset] [(.long ((own_len i1).toInt64)), (.long (own_smp j1))]))
      refine own_go (fun _ k => XT.lsub X5.here hx rfl (hb hby at_87) rfl k) ?_
      show own_Fin p.tables e below _ (T5.setTop (mkF m 88 #[.val (.long j1), .second, .val (.int i1), .val (.int i2), .val (.long (own_smp j1)), .second, .val (.int (own_len i1)), .val (.int (own_len i2)), .val (.long (f4 (own_smp j1) (own_len i1) (own_len i2))), .second, .val (.long ((f4 (own_smp j1) (own_len i1) (own_len i2)) - (1 : Int64))), .second, .unset, .unset, .unset, .unset] [(.long ((own_smp j1) - ((own_len i1).toInt64)))]))
      refine own_go (fun _ k => XT.lstore X5.here hx rfl (hb hby at_88) rfl (l' := #[.val (.long j1), .second, .val (.int i1), .val (.int i2), .val (.long (own_smp j1)), .second, .val (.int (own_len i1)), .val (.int (own_len i2)), .val (.long (f4 (own_smp j1) (own_len i1) (own_len i2))), .second, .val (.long ((f4 (own_smp j1) (own_len i1) (own_len i2)) - (1 : Int64))), .second, .val (.long ((own_smp j1) - ((own_len i1).toInt64))), .second, .unset, .unset]) rfl k) ?_
      show own_Fin p.tables e below _ (T5.setTop (mkF m 90 #[.val (.long j1), .second, .val (.int i1), .val (.int i2), .val (.long (own_smp j1)), .second, .val (.int (own_len i1)), .val (.int (own_len i2)), .val (.long (f4 (own_smp j1) (own_len i1) (own_len i2))), .second, .val (.long ((f4 (own_smp j1) (own_len i1) (own_len i2)) - (1 : Int64))), .second, .val (.long ((own_smp j1) - ((own_len i1).toInt64))), .second, .unset, .unset] []))
      refine own_go (fun _ k => XT.lload X5.here hx rfl (hb hby at_90) rfl k) ?_
      show own_Fin p.tables e below _ (T5.setTop (mkF m 92 #[.val (.long j1), .second, .val (.int i1), .val (.int i2), .val (.long (own_smp j1)), .second, .val (.int (own_len i1)), .val (.int (own_len i2)), .val (.long (f4 (own_smp j1) (own_len i1) (own_len i2))), .second, .val (.long ((f4 (own_smp j1) (own_len i1) (own_len i2)) - (1 : Int64))), .second, .val (.long ((own_smp j1) - ((own_len i1).toInt64))), .second, .unset, .unset] [(.long ((f4 (own_smp j1) (own_len i1) (own_len i2)) - (1 : Int64)))]))
      refine own_go (fun _ k => X5.ldc2J hx hown (mvT hZ (hw _ (List.mem_of_getElem? (i := 0) rfl))) rfl (hb hby at_92) k) ?_
      show own_Fin p.tables e below _ (T5.setTop (mkF m 95 #[.val (.long j1), .second, .val (.int i1), .val (.int i2), .val (.long (own_smp j1)), .second, .val (.int (own_len i1)), .val (.int (own_len i2)), .val (.long (f4 (own_smp j1) (own_len i1) (own_len i2))), .second, .val (.long ((f4 (own_smp j1) (own_len i1) (own_len i2)) - (1 : Int64))), .second, .val (.long ((own_smp j1) - ((own_len i1).toInt64))), .second, .unset, .unset] [(.long (9223372036854775807 : Int64)), (.long ((f4 (own_smp j1) (own_len i1) (own_len i2)) - (1 : Int64)))]))
      refine own_go (fun _ k => XS.iload X5.here hx rfl (hb hby at_95) rfl k) ?_
      show own_Fin p.tables e below _ (T5.setTop (mkF m 97 #[.val (.long j1), .second, .val (.int i1), .val (.int i2), .val (.long (own_smp j1)), .second, .val (.int (own_len i1)), .val (.int (own_len i2)), .val (.long (f4 (own_smp j1) (own_len i1) (own_len i2))), .second, .val (.long ((f4 (own_smp j1) (own_len i1) (own_len i2)) - (1 : Int64))), .second, .val (.long ((own_smp j1) - ((own_len i1).toInt64))), .second, .unset, .unset] [(.int (own_len i2)), (.long (9223372036854775807 : Int64)), (.long ((f4 (own_smp j1) (own_len i1) (own_len i2)) - (1 : Int64)))]))
      refine own_go (fun _ k => XT.i2l X5.here hx rfl (hb hby at_97) rfl k) ?_
      show own_Fin p.tables e below _ (T5.setTop (mkF m 98 #[.val (.long j1), .second, .val (.int i1), .val (.int i2), .val (.long (own_smp j1)), .second, .val (.int (own_len i1)), .val (.int (own_len i2)), .val (.long (f4 (own_smp j1) (own_len i1) (own_len i2))), .second, .val (.long ((f4 (own_smp j1) (own_len i1) (own_len i2)) - (1 : Int64))), .second, .val (.long ((own_smp j1) - ((own_len i1).toInt64))), .second, .unset, .unset] [(.long ((own_len i2).toInt64)), (.long (9223372036854775807 : Int64)), (.long ((f4 (own_smp j1) (own_len i1) (own_len i2)) - (1 : Int64)))]))
      refine own_go (fun _ k => XT.ldiv X5.here hx rfl (hb hby at_98) rfl (own_len_ne i2) k) ?_
      show own_Fin p.tables e below _ (T5.setTop (mkF m 99 #[.val (.long j1), .second, .val (.int i1), .val (.int i2), .val (.long (own_smp j1)), .second, .val (.int (own_len i1)), .val (.int (own_len i2)), .val (.long (f4 (own_smp j1) (own_len i1) (own_len i2))), .second, .val (.long ((f4 (own_smp j1) (own_len i1) (own_len i2)) - (1 : Int64))), .second, .val (.long ((own_smp j1) - ((own_len i1).toInt64))), .second, .unset, .unset] [(.long ((9223372036854775807 : Int64) / ((own_len i2).toInt64))), (.long ((f4 (own_smp j1) (own_len i1) (own_len i2)) - (1 : Int64)))]))
      refine own_go (fun _ k => XT.lcmp X5.here hx rfl (hb hby at_99) rfl k) ?_
      show own_Fin p.tables e below _ (T5.setTop (mkF m 100 #[.val (.long j1), .second, .val (.int i1), .val (.int i2), .val (.long (own_smp j1)), .second, .val (.int (own_len i1)), .val (.int (own_len i2)), .val (.long (f4 (own_smp j1) (own_len i1) (own_len i2))), .second, .val (.long ((f4 (own_smp j1) (own_len i1) (own_len i2)) - (1 : Int64))), .second, .val (.long ((own_smp j1) - ((own_len i1).toInt64))), .second, .unset, .unset] [(.int (XT.cmpL ((f4 (own_smp j1) (own_len i1) (own_len i2)) - (1 : Int64)) ((9223372036854775807 : Int64) / ((own_len i2).toInt64))))]))
      by_cases hc9 : ((9223372036854775807 : Int64) / ((own_len i2).toInt64)) < ((f4 (own_smp j1) (own_len i1) (own_len i2)) - (1 : Int64))
      · refine own_go (fun _ k => XS.ifNo X5.here hx rfl (hb hby at_100) rfl (XT.ll_le_f hc9) k) ?_
        show own_Fin p.tables e below _ (T5.setTop (mkF m 103 #[.val (.long j1), .second, .val (.int i1), .val (.int i2), .val (.long (own_smp j1)), .second, .val (.int (own_len i1)), .val (.int (own_len i2)), .val (.long (f4 (own_smp j1) (own_len i1) (own_len i2))), .second, .val (.long ((f4 (own_smp j1) (own_len i1) (own_len i2)) - (1 : Int64))), .second, .val (.long ((own_smp j1) - ((own_len i1).toInt64))), .second, .unset, .unset] []))
        refine own_go (fun _ k => XT.iconstV X5.here hx rfl (0 : Int32) (hb hby at_103) (by decide) k) ?_
        show own_Fin p.tables e below _ (T5.setTop (mkF m 104 #[.val (.long j1), .second, .val (.int i1), .val (.int i2), .val (.long (own_smp j1)), .second, .val (.int (own_len i1)), .val (.int (own_len i2)), .val (.long (f4 (own_smp j1) (own_len i1) (own_len i2))), .second, .val (.long ((f4 (own_smp j1) (own_len i1) (own_len i2)) - (1 : Int64))), .second, .val (.long ((own_smp j1) - ((own_len i1).toInt64))), .second, .unset, .unset] [(.int (0 : Int32))]))
        refine own_retN X5 hx hlk (t := .boolean) hret (by simp) (hb hby at_104) ?_ (by decide) (by decide)
        exact ⟨by rw [show f0 j1 i1 i2 = (0 : Int32) from by simp only [f0, if_neg hc6, if_neg hc8, if_pos hc9]] <;> rfl, N5⟩
      · refine own_go (fun _ k => XS.ifYes X5.here hx rfl (pc0 := 100) (pc' := 105) rfl (hb hby at_100) rfl (XT.ll_le_t hc9) (by decide) (by decide) k) ?_
        show own_Fin p.tables e below _ (T5.setTop (mkF m 105 #[.val (.long j1), .second, .val (.int i1), .val (.int i2), .val (.long (own_smp j1)), .second, .val (.int (own_len i1)), .val (.int (own_len i2)), .val (.long (f4 (own_smp j1) (own_len i1) (own_len i2))), .second, .val (.long ((f4 (own_smp j1) (own_len i1) (own_len i2)) - (1 : Int64))), .second, .val (.long ((own_smp j1) - ((own_len i1).toInt64))), .second, .unset, .unset] []))
        refine own_go (fun _ k => XT.lload X5.here hx rfl (hb hby at_105) rfl k) ?_
        show own_Fin p.tables e below _ (T5.setTop (mkF m 107 #[.val (.long j1), .second, .val (.int i1), .val (.int i2), .val (.long (own_smp j1)), .second, .val (.int (own_len i1)), .val (.int (own_len i2)), .val (.long (f4 (own_smp j1) (own_len i1) (own_len i2))), .second, .val (.long ((f4 (own_smp j1) (own_len i1) (own_len i2)) - (1 : Int64))), .second, .val (.long ((own_smp j1) - ((own_len i1).toInt64))), .second, .unset, .unset] [(.long ((own_smp j1) - ((own_len i1).toInt64)))]))
        refine own_go (fun _ k => XT.lload X5.here hx rfl (hb hby at_107) rfl k) ?_
        show own_Fin p.tables e below _ (T5.setTop (mkF m 109 #[.val (.long j1), .second, .val (.int i1), .val (.int i2), .val (.long (own_smp j1)), .second, .val (.int (own_len i1)), .val (.int (own_len i2)), .val (.long (f4 (own_smp j1) (own_len i1) (own_len i2))), .second, .val (.long ((f4 (own_smp j1) (own_len i1) (own_len i2)) - (1 : Int64))), .second, .val (.long ((own_smp j1) - ((own_len i1).toInt64))), .second, .unset, .unset] [(.long ((f4 (own_smp j1) (own_len i1) (own_len i2)) - (1 : Int64))), (.long ((own_smp j1) - ((own_len i1).toInt64)))]))
        refine own_go (fun _ k => XS.iload X5.here hx rfl (hb hby at_109) rfl k) ?_
        show own_Fin p.tables e below _ (T5.setTop (mkF m 111 #[.val (.long j1), .second, .val (.int i1), .val (.int i2), .val (.long (own_smp j1)), .second, .val (.int (own_len i1)), .val (.int (own_len i2)), .val (.long (f4 (own_smp j1) (own_len i1) (own_len i2))), .second, .val (.long ((f4 (own_smp j1) (own_len i1) (own_len i2)) - (1 : Int64))), .second, .val (.long ((own_smp j1) - ((own_len i1).toInt64))), .second, .unset, .unset] [(.int (own_len i2)), (.long ((f4 (own_smp j1) (own_len i1) (own_len i2)) - (1 : Int64))), (.long ((own_smp j1) - ((own_len i1).toInt64)))]))
        refine own_go (fun _ k => XT.i2l X5.here hx rfl (hb hby at_111) rfl k) ?_
        show own_Fin p.tables e below _ (T5.setTop (mkF m 112 #[.val (.long j1), .second, .val (.int i1), .val (.int i2), .val (.long (own_smp j1)), .second, .val (.int (own_len i1)), .val (.int (own_len i2)), .val (.long (f4 (own_smp j1) (own_len i1) (own_len i2))), .second, .val (.long ((f4 (own_smp j1) (own_len i1) (own_len i2)) - (1 : Int64))), .second, .val (.long ((own_smp j1) - ((own_len i1).toInt64))), .second, .unset, .unset] [(.long ((own_len i2).toInt64)), (.long ((f4 (own_smp j1) (own_len i1) (own_len i2)) - (1 : Int64))), (.long ((own_smp j1) - ((own_len i1).toInt64)))]))
        refine own_go (fun _ k => XT.lmul X5.here hx rfl (hb hby at_112) rfl k) ?_
        show own_Fin p.tables e below _ (T5.setTop (mkF m 113 #[.val (.long j1), .second, .val (.int i1), .val (.int i2), .val (.long (own_smp j1)), .second, .val (.int (own_len i1)), .val (.int (own_len i2)), .val (.long (f4 (own_smp j1) (own_len i1) (own_len i2))), .second, .val (.long ((f4 (own_smp j1) (own_len i1) (own_len i2)) - (1 : Int64))), .second, .val (.long ((own_smp j1) - ((own_len i1).toInt64))), .second, .unset, .unset] [(.long (((f4 (own_smp j1) (own_len i1) (own_len i2)) - (1 : Int64)) * ((own_len i2).toInt64))), (.long ((own_smp j1) - ((own_len i1).toInt64)))]))
        refine own_go (fun _ k => XT.lsub X5.here hx rfl (hb hby at_113) rfl k) ?_
        show own_Fin p.tables e below _ (T5.setTop (mkF m 114 #[.val (.long j1), .second, .val (.int i1), .val (.int i2), .val (.long (own_smp j1)), .second, .val (.int (own_len i1)), .val (.int (own_len i2)), .val (.long (f4 (own_smp j1) (own_len i1) (own_len i2))), .second, .val (.long ((f4 (own_smp j1) (own_len i1) (own_len i2)) - (1 : Int64))), .second, .val (.long ((own_smp j1) - ((own_len i1).toInt64))), .second, .unset, .unset] [(.long (((own_smp j1) - ((own_len i1).toInt64)) - (((f4 (own_smp j1) (own_len i1) (own_len i2)) - (1 : Int64)) * ((own_len i2).toInt64))))]))
        refine own_go (fun _ k => XT.lstore X5.here hx rfl (hb hby at_114) rfl (l' := #[.val (.long j1), .second, .val (.int i1), .val (.int i2), .val (.long (own_smp j1)), .second, .val (.int (own_len i1)), .val (.int (own_len i2)), .val (.long (f4 (own_smp j1) (own_len i1) (own_len i2))), .second, .val (.long ((f4 (own_smp j1) (own_len i1) (own_len i2)) - (1 : Int64))), .second, .val (.long ((own_smp j1) - ((own_len i1).toInt64))), .second, .val (.long (((own_smp j1) - ((own_len i1).toInt64)) - (((f4 (own_smp j1) (own_len i1) (own_len i2)) - (1 : Int64)) * ((own_len i2).toInt64)))), .second]) rfl k) ?_
        show own_Fin p.tables e below _ (T5.setTop (mkF m 116 #[.val (.long j1), .second, .val (.int i1), .val (.int i2), .val (.long (own_smp j1)), .second, .val (.int (own_len i1)), .val (.int (own_len i2)), .val (.long (f4 (own_smp j1) (own_len i1) (own_len i2))), .second, .val (.long ((f4 (own_smp j1) (own_len i1) (own_len i2)) - (1 : Int64))), .second, .val (.long ((own_smp j1) - ((own_len i1).toInt64))), .second, .val (.long (((own_smp j1) - ((own_len i1).toInt64)) - (((f4 (own_smp j1) (own_len i1) (own_len i2)) - (1 : Int64)) * ((own_len i2).toInt64)))), .second] []))
        refine own_go (fun _ k => XT.lload X5.here hx rfl (hb hby at_116) rfl k) ?_
        show own_Fin p.tables e below _ (T5.setTop (mkF m 118 #[.val (.long j1), .second, .val (.int i1), .val (.int i2), .val (.long (own_smp j1)), .second, .val (.int (own_len i1)), .val (.int (own_len i2)), .val (.long (f4 (own_smp j1) (own_len i1) (own_len i2))), .second, .val (.long ((f4 (own_smp j1) (own_len i1) (own_len i2)) - (1 : Int64))), .second, .val (.long ((own_smp j1) - ((own_len i1).toInt64))), .second, .val (.long (((own_smp j1) - ((own_len i1).toInt64)) - (((f4 (own_smp j1) (own_len i1) (own_len i2)) - (1 : Int64)) * ((own_len i2).toInt64)))), .second] [(.long (((own_smp j1) - ((own_len i1).toInt64)) - (((f4 (own_smp j1) (own_len i1) (own_len i2)) - (1 : Int64)) * ((own_len i2).toInt64))))]))
        refine own_go (fun _ k => XT.lconstV X5.here hx rfl (0 : Int64) (hb hby at_118) (by decide) k) ?_
        show own_Fin p.tables e below _ (T5.setTop (mkF m 119 #[.val (.long j1), .second, .val (.int i1), .val (.int i2), .val (.long (own_smp j1)), .second, .val (.int (own_len i1)), .val (.int (own_len i2)), .val (.long (f4 (own_smp j1) (own_len i1) (own_len i2))), .second, .val (.long ((f4 (own_smp j1) (own_len i1) (own_len i2)) - (1 : Int64))), .second, .val (.long ((own_smp j1) - ((own_len i1).toInt64))), .second, .val (.long (((own_smp j1) - ((own_len i1).toInt64)) - (((f4 (own_smp j1) (own_len i1) (own_len i2)) - (1 : Int64)) * ((own_len i2).toInt64)))), .second] [(.long (0 : Int64)), (.long (((own_smp j1) - ((own_len i1).toInt64)) - (((f4 (own_smp j1) (own_len i1) (own_len i2)) - (1 : Int64)) * ((own_len i2).toInt64))))]))
        refine own_go (fun _ k => XT.lcmp X5.here hx rfl (hb hby at_119) rfl k) ?_
        show own_Fin p.tables e below _ (T5.setTop (mkF m 120 #[.val (.long j1), .second, .val (.int i1), .val (.int i2), .val (.long (own_smp j1)), .second, .val (.int (own_len i1)), .val (.int (own_len i2)), .val (.long (f4 (own_smp j1) (own_len i1) (own_len i2))), .second, .val (.long ((f4 (own_smp j1) (own_len i1) (own_len i2)) - (1 : Int64))), .second, .val (.long ((own_smp j1) - ((own_len i1).toInt64))), .second, .val (.long (((own_smp j1) - ((own_len i1).toInt64)) - (((f4 (own_smp j1) (own_len i1) (own_len i2)) - (1 : Int64)) * ((own_len i2).toInt64)))), .second] [(.int (XT.cmpL (((own_smp j1) - ((own_len i1).toInt64)) - (((f4 (own_smp j1) (own_len i1) (own_len i2)) - (1 : Int64)) * ((own_len i2).toInt64))) (0 : Int64)))]))
        by_cases hc10 : (((own_smp j1) - ((own_len i1).toInt64)) - (((f4 (own_smp j1) (own_len i1) (own_len i2)) - (1 : Int64)) * ((own_len i2).toInt64))) < (0 : Int64)
        · refine own_go (fun _ k => XS.ifYes X5.here hx rfl (pc0 := 120) (pc' := 136) rfl (hb hby at_120) rfl (XT.ll_lt_t hc10) (by decide) (by decide) k) ?_
          show own_Fin p.tables e below _ (T5.setTop (mkF m 136 #[.val (.long j1), .second, .val (.int i1), .val (.int i2), .val (.long (own_smp j1)), .second, .val (.int (own_len i1)), .val (.int (own_len i2)), .val (.long (f4 (own_smp j1) (own_len i1) (own_len i2))), .second, .val (.long ((f4 (own_smp j1) (own_len i1) (own_len i2)) - (1 : Int64))), .second, .val (.long ((own_smp j1) - ((own_len i1).toInt64))), .second, .val (.long (((own_smp j1) - ((own_len i1).toInt64)) - (((f4 (own_smp j1) (own_len i1) (own_len i2)) - (1 : Int64)) * ((own_len i2).toInt64)))), .second] []))
          refine own_go (fun _ k => XT.iconstV X5.here hx rfl (0 : Int32) (hb hby at_136) (by decide) k) ?_
          show own_Fin p.tables e below _ (T5.setTop (mkF m 137 #[.val (.long j1), .second, .val (.int i1), .val (.int i2), .val (.long (own_smp j1)), .second, .val (.int (own_len i1)), .val (.int (own_len i2)), .val (.long (f4 (own_smp j1) (own_len i1) (own_len i2))), .second, .val (.long ((f4 (own_smp j1) (own_len i1) (own_len i2)) - (1 : Int64))), .second, .val (.long ((own_smp j1) - ((own_len i1).toInt64))), .second, .val (.long (((own_smp j1) - ((own_len i1).toInt64)) - (((f4 (own_smp j1) (own_len i1) (own_len i2)) - (1 : Int64)) * ((own_len i2).toInt64)))), .second] [(.int (0 : Int32))]))
          refine own_retN X5 hx hlk (t := .boolean) hret (by simp) (hb hby at_137) ?_ (by decide) (by decide)
          exact ⟨by rw [show f0 j1 i1 i2 = (0 : Int32) from by simp only [f0, if_neg hc6, if_neg hc8, if_neg hc9, if_pos hc10]] <;> rfl, N5⟩
        · refine own_go (fun _ k => XS.ifNo X5.here hx rfl (hb hby at_120) rfl (XT.ll_lt_f hc10) k) ?_
          show own_Fin p.tables e below _ (T5.setTop (mkF m 123 #[.val (.long j1), .second, .val (.int i1), .val (.int i2), .val (.long (own_smp j1)), .second, .val (.int (own_len i1)), .val (.int (own_len i2)), .val (.long (f4 (own_smp j1) (own_len i1) (own_len i2))), .second, .val (.long ((f4 (own_smp j1) (own_len i1) (own_len i2)) - (1 : Int64))), .second, .val (.long ((own_smp j1) - ((own_len i1).toInt64))), .second, .val (.long (((own_smp j1) - ((own_len i1).toInt64)) - (((f4 (own_smp j1) (own_len i1) (own_len i2)) - (1 : Int64)) * ((own_len i2).toInt64)))), .second] []))
          refine own_go (fun _ k => XT.lload X5.here hx rfl (hb hby at_123) rfl k) ?_
          show own_Fin p.tables e below _ (T5.setTop (mkF m 125 #[.val (.long j1), .second, .val (.int i1), .val (.int i2), .val (.long (own_smp j1)), .second, .val (.int (own_len i1)), .val (.int (own_len i2)), .val (.long (f4 (own_smp j1) (own_len i1) (own_len i2))), .second, .val (.long ((f4 (own_smp j1) (own_len i1) (own_len i2)) - (1 : Int64))), .second, .val (.long ((own_smp j1) - ((own_len i1).toInt64))), .second, .val (.long (((own_smp j1) - ((own_len i1).toInt64)) - (((f4 (own_smp j1) (own_len i1) (own_len i2)) - (1 : Int64)) * ((own_len i2).toInt64)))), .second] [(.long (((own_smp j1) - ((own_len i1).toInt64)) - (((f4 (own_smp j1) (own_len i1) (own_len i2)) - (1 : Int64)) * ((own_len i2).toInt64))))]))
          refine own_go (fun _ k => XS.iload X5.here hx rfl (hb hby at_125) rfl k) ?_
          show own_Fin p.tables e below _ (T5.setTop (mkF m 127 #[.val (.long j1), .second, .val (.int i1), .val (.int i2), .val (.long (own_smp j1)), .second, .val (.int (own_len i1)), .val (.int (own_len i2)), .val (.long (f4 (own_smp j1) (own_len i1) (own_len i2))), .second, .val (.long ((f4 (own_smp j1) (own_len i1) (own_len i2)) - (1 : Int64))), .second, .val (.long ((own_smp j1) - ((own_len i1).toInt64))), .second, .val (.long (((own_smp j1) - ((own_len i1).toInt64)) - (((f4 (own_smp j1) (own_len i1) (own_len i2)) - (1 : Int64)) * ((own_len i2).toInt64)))), .second] [(.int (own_len i2)), (.long (((own_smp j1) - ((own_len i1).toInt64)) - (((f4 (own_smp j1) (own_len i1) (own_len i2)) - (1 : Int64)) * ((own_len i2).toInt64))))]))
          refine own_go (fun _ k => XT.i2l X5.here hx rfl (hb hby at_127) rfl k) ?_
          show own_Fin p.tables e below _ (T5.setTop (mkF m 128 #[.val (.long j1), .second, .val (.int i1), .val (.int i2), .val (.long (own_smp j1)), .second, .val (.int (own_len i1)), .val (.int (own_len i2)), .val (.long (f4 (own_smp j1) (own_len i1) (own_len i2))), .second, .val (.long ((f4 (own_smp j1) (own_len i1) (own_len i2)) - (1 : Int64))), .second, .val (.long ((own_smp j1) - ((own_len i1).toInt64))), .second, .val (.long (((own_smp j1) - ((own_len i1).toInt64)) - (((f4 (own_smp j1) (own_len i1) (own_len i2)) - (1 : Int64)) * ((own_len i2).toInt64)))), .second] [(.long ((own_len i2).toInt64)), (.long (((own_smp j1) - ((own_len i1).toInt64)) - (((f4 (own_smp j1) (own_len i1) (own_len i2)) - (1 : Int64)) * ((own_len i2).toInt64))))]))
          refine own_go (fun _ k => XT.lcmp X5.here hx rfl (hb hby at_128) rfl k) ?_
          show own_Fin p.tables e below _ (T5.setTop (mkF m 129 #[.val (.long j1), .second, .val (.int i1), .val (.int i2), .val (.long (own_smp j1)), .second, .val (.int (own_len i1)), .val (.int (own_len i2)), .val (.long (f4 (own_smp j1) (own_len i1) (own_len i2))), .second, .val (.long ((f4 (own_smp j1) (own_len i1) (own_len i2)) - (1 : Int64))), .second, .val (.long ((own_smp j1) - ((own_len i1).toInt64))), .second, .val (.long (((own_smp j1) - ((own_len i1).toInt64)) - (((f4 (own_smp j1) (own_len i1) (own_len i2)) - (1 : Int64)) * ((own_len i2).toInt64)))), .second] [(.int (XT.cmpL (((own_smp j1) - ((own_len i1).toInt64)) - (((f4 (own_smp j1) (own_len i1) (own_len i2)) - (1 : Int64)) * ((own_len i2).toInt64))) ((own_len i2).toInt64)))]))
          by_cases hc11 : (((own_smp j1) - ((own_len i1).toInt64)) - (((f4 (own_smp j1) (own_len i1) (own_len i2)) - (1 : Int64)) * ((own_len i2).toInt64))) < ((own_len i2).toInt64)
          · refine own_go (fun _ k => XS.ifNo X5.here hx rfl (hb hby at_129) rfl (XT.ll_ge_f hc11) k) ?_
            show own_Fin p.tables e below _ (T5.setTop (mkF m 132 #[.val (.long j1), .second, .val (.int i1), .val (.int i2), .val (.long (own_smp j1)), .second, .val (.int (own_len i1)), .val (.int (own_len i2)), .val (.long (f4 (own_smp j1) (own_len i1) (own_len i2))), .second, .val (.long ((f4 (own_smp j1) (own_len i1) (own_len i2)) - (1 : Int64))), .second, .val (.long ((own_smp j1) - ((own_len i1).toInt64))), .second, .val (.long (((own_smp j1) - ((own_len i1).toInt64)) - (((f4 (own_smp j1) (own_len i1) (own_len i2)) - (1 : Int64)) * ((own_len i2).toInt64)))), .second] []))
            refine own_go (fun _ k => XT.iconstV X5.here hx rfl (1 : Int32) (hb hby at_132) (by decide) k) ?_
            show own_Fin p.tables e below _ (T5.setTop (mkF m 133 #[.val (.long j1), .second, .val (.int i1), .val (.int i2), .val (.long (own_smp j1)), .second, .val (.int (own_len i1)), .val (.int (own_len i2)), .val (.long (f4 (own_smp j1) (own_len i1) (own_len i2))), .second, .val (.long ((f4 (own_smp j1) (own_len i1) (own_len i2)) - (1 : Int64))), .second, .val (.long ((own_smp j1) - ((own_len i1).toInt64))), .second, .val (.long (((own_smp j1) - ((own_len i1).toInt64)) - (((f4 (own_smp j1) (own_len i1) (own_len i2)) - (1 : Int64)) * ((own_len i2).toInt64)))), .second] [(.int (1 : Int32))]))
            refine own_go (fun _ k => XS.goto X5.here hx rfl (pc0 := 133) (pc' := 137) rfl (hb hby at_133) (by decide) (by decide) k) ?_
            show own_Fin p.tables e below _ (T5.setTop (mkF m 137 #[.val (.long j1), .second, .val (.int i1), .val (.int i2), .val (.long (own_smp j1)), .second, .val (.int (own_len i1)), .val (.int (own_len i2)), .val (.long (f4 (own_smp j1) (own_len i1) (own_len i2))), .second, .val (.long ((f4 (own_smp j1) (own_len i1) (own_len i2)) - (1 : Int64))), .second, .val (.long ((own_smp j1) - ((own_len i1).toInt64))), .second, .val (.long (((own_smp j1) - ((own_len i1).toInt64)) - (((f4 (own_smp j1) (own_len i1) (own_len i2)) - (1 : Int64)) * ((own_len i2).toInt64)))), .second] [(.int (1 : Int32))]))
            refine own_retN X5 hx hlk (t := .boolean) hret (by simp) (hb hby at_137) ?_ (by decide) (by decide)
            exact ⟨by rw [show f0 j1 i1 i2 = (1 : Int32) from by simp only [f0, if_neg hc6, if_neg hc8, if_neg hc9, if_neg hc10, if_pos hc11]] <;> rfl, N5⟩
          · refine own_go (fun _ k => XS.ifYes X5.here hx rfl (pc0 := 129) (pc' := 136) rfl (hb hby at_129) rfl (XT.ll_ge_t hc11) (by decide) (by decide) k) ?_
            show own_Fin p.tables e below _ (T5.setTop (mkF m 136 #[.val (.long j1), .second, .val (.int i1), .val (.int i2), .val (.long (own_smp j1)), .second, .val (.int (own_len i1)), .val (.int (own_len i2)), .val (.long (f4 (own_smp j1) (own_len i1) (own_len i2))), .second, .val (.long ((f4 (own_smp j1) (own_len i1) (own_len i2)) - (1 : Int64))), .second, .val (.long ((own_smp j1) - ((own_len i1).toInt64))), .second, .val (.long (((own_smp j1) - ((own_len i1).toInt64)) - (((f4 (own_smp j1) (own_len i1) (own_len i2)) - (1 : Int64)) * ((own_len i2).toInt64)))), .second] []))
            refine own_go (fun _ k => XT.iconstV X5.here hx rfl (0 : Int32) (hb hby at_136) (by decide) k) ?_
            show own_Fin p.tables e below _ (T5.setTop (mkF m 137 #[.val (.long j1), .second, .val (.int i1), .val (.int i2), .val (.long (own_smp j1)), .second, .val (.int (own_len i1)), .val (.int (own_len i2)), .val (.long (f4 (own_smp j1) (own_len i1) (own_len i2))), .second, .val (.long ((f4 (own_smp j1) (own_len i1) (own_len i2)) - (1 : Int64))), .second, .val (.long ((own_smp j1) - ((own_len i1).toInt64))), .second, .val (.long (((own_smp j1) - ((own_len i1).toInt64)) - (((f4 (own_smp j1) (own_len i1) (own_len i2)) - (1 : Int64)) * ((own_len i2).toInt64)))), .second] [(.int (0 : Int32))]))
            refine own_retN X5 hx hlk (t := .boolean) hret (by simp) (hb hby at_137) ?_ (by decide) (by decide)
            exact ⟨by rw [show f0 j1 i1 i2 = (0 : Int32) from by simp only [f0, if_neg hc6, if_neg hc8, if_neg hc9, if_neg hc10, if_neg hc11]] <;> rfl, N5⟩
set_option maxRecDepth 65536 in
set_option maxHeartbeats 40000000 in
theorem comes_1 {Post : Tables → Env → Array Value → State → Outcome → State → Prop} (hpost : ∀ tb e args s v u, (limb_1_1.after args s (.returned v) u = true ∧ limb_1_2.after args s (.returned v) u = true ∧ True) → FrameEnd s (.returned v) u (Jvm.fieldLocs frame_1_writes args s ++ Jvm.arrayLocs frame_1_arrays args s ++ Jvm.staticLocs frame_1_statics s) 16 128 → Post tb e args s (.returned v) u) :
    ArmFor flags0 classFile x code maxLocals ret World_1 tables_1 room_1 Calls_1 rest_1 Pre_1 Post := by
  intro l hfl _ _ p e ha hc hk s m args below hf hA hF happ hP
  obtain ⟨hcalls, hrest, hpre⟩ := hP
  obtain ⟨-, -, -, hnamed, -, -, -, hat⟩ := (Spec.applies_iff hf).mp happ
  obtain ⟨hg, hn⟩ := and_e (Cond.before_iff.mp (show (Jvm.Cond.and given_1 narrow_1).before args s = true from hpre))
  obtain ⟨hcount, hr0⟩ := and_e hg
  obtain ⟨hk0, hr1⟩ := and_e hr0
  obtain ⟨hk1, hr2⟩ := and_e hr1
  obtain ⟨w0, w1, w2, rfl⟩ : ∃ w0 w1 w2 : Value, args = #[w0, w1, w2] := by
    have hs : args.size = 3 := by simpa [Cond.value, given_1] using hcount
    obtain ⟨L⟩ := args
    match L, hs with
    | [w0, w1, w2], _ => exact ⟨w0, w1, w2, rfl⟩
  have hw := fun d (hd : d ∈ tables_1) => atoms_spec (ws := Jvm.Cond.code x code maxLocals ret :: tables_1) hat d (List.mem_cons_of_mem _ hd)
  have hfit : Fit s := fun {y c} hc i hi => by
    obtain ⟨ha, rfl⟩ := Array.getElem?_eq_some_iff.mp hc
    have q := List.all_eq_true.mp ((Array.all_eq_true_iff_forall_mem.mp hF) _ (Array.getElem_mem ha)) i (List.mem_range.mpr hi)
    simpa [Array.getElem?_eq_getElem hi] using q
  obtain ⟨i0, ev0⟩ := isL_v hk0
  obtain rfl : w0 = (.long i0) := Option.some.inj ev0
  obtain ⟨i1, ev1⟩ := is_v hk1
  obtain rfl : w1 = (.int i1) := Option.some.inj ev1
  obtain ⟨i2, ev2⟩ := is_v hr2
  obtain rfl : w2 = (.int i2) := Option.some.inj ev2
  obtain ⟨n, o, h1, h2, h3, _, L, rfl, ⟨hv, N⟩, hq⟩ := rm0 l s _ hw tables_1 i0 i1 i2 s.heap s.heap.size (Nat.le_refl _)  p e ha hc hk s m _ below hf ((Spec.applies_iff_loose hf).mp happ).1 ⟨rfl, State.Warmed39.refl s, rfl⟩ trivial
  rw [own_law] at hv
  subst hv
  refine ⟨n, _, h1, h2, h3, hpost _ _ _ _ _ _ ⟨Cond.after_iff.mpr rfl, Cond.after_iff.mpr (eq_i res_at (Term.int_eval (1)) rfl), trivial⟩ ⟨hq.1, hq.2.1, (hq.2.2.sift fun y hy => Or.inr (N y hy)).mono (by decide) (by decide)⟩⟩
theorem main_1_1 : Claimed_1_1 := comes_1 fun _ _ _ _ _ _ h hF => ⟨h.1, hF⟩
theorem main_1_2 : Claimed_1_2 := comes_1 fun _ _ _ _ _ _ h hF => ⟨h.2.1, hF⟩
end Jvm.Pilot.@@N@@
namespace Jvm.Pilot.@@N@@
open Jvm Jvm.ClassFile Sem Op Lib Jvm.Free Jvm.Stand Jvm.Pilot.@@N@@.Jvm.D
/-! MADE BY PROGRAM (witnessworld.py) out of the Statement's table words and the real class files: 11 classes; the members and pool entries that the words name. The judged class is class 1, her method 1. -/
namespace start1
open Jvm.ClassFile
def u (s : String) : CpInfo := .utf8 (stringToUtf16 s)
/-- a pool by its gaps: so many unusable entries, then the entry; so many at the end -/
def gap : Nat → List CpInfo → List CpInfo
  | 0, r => r
  | n + 1, r => .unusable :: gap n r
def poolList (es : List (Nat × CpInfo)) (last : Nat) : List CpInfo := es.foldr (fun e r => gap e.1 (e.2 :: r)) (gap last [])
def pool (es : List (Nat × CpInfo)) (last : Nat) : Array CpInfo := ⟨poolList es last⟩
def fileOf (pool : Array CpInfo) (this : Nat) (attrs : Array Attribute := #[]) (ms : Array MethodInfo := #[]) (fl : Nat := 33) (sup : Nat := 0) (ifs : Array Nat := #[]) (fds : Array FieldInfo := #[]) : ClassFile where
  minorVersion := 0
  majorVersion := 65
  constantPool := pool
  accessFlags := fl
  thisClass := this
  superClass := sup
  interfaces := ifs
  fields := fds
  methods := ms
  attributes := attrs
def plain (name : String) (sup : Option ClassId) : Class where
  name := name
  kind := .ordinary
  loader := none
  accessFlags := 33
  super := sup
  interfaces := #[]
  cf := none
  fields := #[]
  methods := #[]
  instanceTypes := #[]
  staticTypes := #[]
  resolved := #[]
  callSites := []
  init := .initialized
  statics := none
  mirror := none

def pool0 : Array CpInfo := pool [(5, u "<init>"), (0, u "()V"), (1, .class_ 10), (1, u "java/lang/Object")] 113

def k0c0 : Code := { maxStack := 0, maxLocals := 1, code := object_method_1_code, exceptionTable := #[], attributes := #[] }
def k0m0 : Method := { name := "<init>", desc := "()V", sig := { parameters := [], returnType := none }, accessFlags := 1, code := some k0c0 }
/-- java/lang/Object -/
def k0 : Class := { plain "java/lang/Object" none with
  accessFlags := 33
  interfaces := #[]
  cf := some (fileOf pool0 8 #[] #[{ accessFlags := 1, nameIndex := 5, descriptorIndex := 6, attributes := #[] }] 33 0 #[] #[])
  fields := #[]
  methods := #[k0m0]
  instanceTypes := #[]
  staticTypes := #[]
  resolved := Array.replicate 124 none
  statics := none }

def pool1 : Array CpInfo := pool [(2, .class_ 4), (1, u "java/lang/Object"), (0, u "<init>"), (0, u "()V"), (2, .long 9223372036854775807), (1, .integer 2147483647), (0, .methodref 13 14), (0, .class_ 15), (0, .nameAndType 16 17), (0, u "java/lang/Math"), (0, u "max"), (0, u "(II)I"), (0, .class_ 19), (0, u "com/example/tremorgrid/tremorgrid/analysis/SlidingWindows"), (0, .methodref 18 21), (0, .nameAndType 5 22), (0, u "(II)V"), (0, .methodref 18 24), (0, .nameAndType 25 26), (0, u "count"), (0, u "(J)J"), (0, .class_ 28), (0, u "com/example/tremorgrid/tremorgrid/analysis/SlidingWindowsCountPinLaw"), (2, u "law"), (0, u "(JII)Z")] 3

def k1m0 : Method := { name := "<init>", desc := "()V", sig := { parameters := [], returnType := none }, accessFlags := 1, code := none }
def k1c1 : Code := { maxStack := 6, maxLocals := 16, code := code, exceptionTable := #[], attributes := #[] }
def k1m1 : Method := { name := "law", desc := "(JII)Z", sig := { parameters := [.long, .int, .int], returnType := some .boolean }, accessFlags := 9, code := some k1c1 }
/-- com/example/tremorgrid/tremorgrid/analysis/SlidingWindowsCountPinLaw -/
def k1 : Class := { plain "com/example/tremorgrid/tremorgrid/analysis/SlidingWindowsCountPinLaw" (some 0) with
  accessFlags := 49
  interfaces := #[]
  cf := some (fileOf pool1 27 #[] #[{ accessFlags := 1, nameIndex := 5, descriptorIndex := 6, attributes := #[] }, { accessFlags := 9, nameIndex := 31, descriptorIndex := 32, attributes := #[] }] 49 2 #[] #[])
  fields := #[]
  methods := #[k1m0, k1m1]
  instanceTypes := #[]
  staticTypes := #[]
  resolved := Array.replicate 36 none
  statics := none }

def pool2 : Array CpInfo := pool [(1, .class_ 2), (0, u "java/lang/Math"), (1, .class_ 6), (1, u "java/lang/Object"), (0, u "<init>"), (0, u "()V"), (89, .class_ 100), (1, u "java/lang/Math$RandomNumberGeneratorHolder"), (71, u "negativeZeroFloatBits"), (0, u "J"), (2, u "negativeZeroDoubleBits"), (21, u "max"), (46, u "$assertionsDisabled"), (0, u "Z"), (88, u "(II)I"), (2, u "twoToTheDoubleScaleDown"), (0, u "D"), (4, u "twoToTheDoubleScaleUp"), (9, u "E"), (3, u "PI"), (2, u "TAU"), (2, u "DEGREES_TO_RADIANS"), (0, u "RADIANS_TO_DEGREES")] 94

def k2m0 : Method := { name := "<init>", desc := "()V", sig := { parameters := [], returnType := none }, accessFlags := 2, code := none }
def k2c1 : Code := { maxStack := 2, maxLocals := 2, code := jdk_29_method_65_code, exceptionTable := #[], attributes := #[] }
def k2m1 : Method := { name := "max", desc := "(II)I", sig := { parameters := [.int, .int], returnType := some .int }, accessFlags := 9, code := some k2c1 }
/-- java/lang/Math -/
def k2 : Class := { plain "java/lang/Math" (some 0) with
  accessFlags := 49
  interfaces := #[]
  cf := some (fileOf pool2 1 #[.nestMembers #[98]] #[{ accessFlags := 2, nameIndex := 7, descriptorIndex := 8, attributes := #[] }, { accessFlags := 9, nameIndex := 198, descriptorIndex := 335, attributes := #[] }] 49 4 #[] #[{ accessFlags := 25, nameIndex := 354, descriptorIndex := 339, attributes := #[] }, { accessFlags := 25, nameIndex := 358, descriptorIndex := 339, attributes := #[] }, { accessFlags := 25, nameIndex := 361, descriptorIndex := 339, attributes := #[] }, { accessFlags := 26, nameIndex := 364, descriptorIndex := 339, attributes := #[] }, { accessFlags := 26, nameIndex := 365, descriptorIndex := 339, attributes := #[] }, { accessFlags := 26, nameIndex := 172, descriptorIndex := 173, attributes := #[] }, { accessFlags := 26, nameIndex := 176, descriptorIndex := 173, attributes := #[] }, { accessFlags := 8, nameIndex := 344, descriptorIndex := 339, attributes := #[] }, { accessFlags := 8, nameIndex := 338, descriptorIndex := 339, attributes := #[] }, { accessFlags := 4120, nameIndex := 245, descriptorIndex := 246, attributes := #[] }])
  fields := #[{ name := "E", type := .double, accessFlags := 25, slot := 0, constantValue := 0 }, { name := "PI", type := .double, accessFlags := 25, slot := 1, constantValue := 0 }, { name := "TAU", type := .double, accessFlags := 25, slot := 2, constantValue := 0 }, { name := "DEGREES_TO_RADIANS", type := .double, accessFlags := 26, slot := 3, constantValue := 0 }, { name := "RADIANS_TO_DEGREES", type := .double, accessFlags := 26, slot := 4, constantValue := 0 }, { name := "negativeZeroFloatBits", type := .long, accessFlags := 26, slot := 5, constantValue := 0 }, { name := "negativeZeroDoubleBits", type := .long, accessFlags := 26, slot := 6, constantValue := 0 }, { name := "twoToTheDoubleScaleUp", type := .double, accessFlags := 8, slot := 7, constantValue := 0 }, { name := "twoToTheDoubleScaleDown", type := .double, accessFlags := 8, slot := 8, constantValue := 0 }, { name := "$assertionsDisabled", type := .boolean, accessFlags := 4120, slot := 9, constantValue := 0 }]
  methods := #[k2m0, k2m1]
  instanceTypes := #[]
  staticTypes := #[.double, .double, .double, .double, .double, .long, .long, .double, .double, .boolean]
  resolved := Array.replicate 460 none
  statics := none }

def pool3 : Array CpInfo := pool [(1, .methodref 2 3), (0, .class_ 4), (0, .nameAndType 5 6), (0, u "java/lang/Object"), (0, u "<init>"), (0, u "()V"), (0, .class_ 8), (0, u "java/lang/Record")] 13

def k3c0 : Code := { maxStack := 1, maxLocals := 1, code := jdk_30_method_1_code, exceptionTable := #[], attributes := #[] }
def k3m0 : Method := { name := "<init>", desc := "()V", sig := { parameters := [], returnType := none }, accessFlags := 4, code := some k3c0 }
/-- java/lang/Record -/
def k3 : Class := { plain "java/lang/Record" (some 0) with
  accessFlags := 1057
  interfaces := #[]
  cf := some (fileOf pool3 7 #[] #[{ accessFlags := 4, nameIndex := 5, descriptorIndex := 6, attributes := #[] }] 1057 2 #[] #[])
  fields := #[]
  methods := #[k3m0]
  instanceTypes := #[]
  staticTypes := #[]
  resolved := Array.replicate 22 none
  statics := none }

def pool4 : Array CpInfo := pool [(1, .methodref 2 3), (0, .class_ 4), (0, .nameAndType 5 6), (0, u "java/lang/Record"), (0, u "<init>"), (0, u "()V"), (9, .fieldref 17 18), (0, .class_ 19), (0, .nameAndType 20 21), (0, u "com/example/tremorgrid/tremorgrid/analysis/SlidingWindows"), (0, u "length"), (0, u "I"), (0, .fieldref 17 23), (0, .nameAndType 24 21), (0, u "step"), (15, u "(II)V"), (4, u "count"), (0, u "(J)J")] 34

def k4c0 : Code := { maxStack := 4, maxLocals := 3, code := prog_10_method_1_code, exceptionTable := #[], attributes := #[] }
def k4m0 : Method := { name := "<init>", desc := "(II)V", sig := { parameters := [.int, .int], returnType := none }, accessFlags := 1, code := some k4c0 }
def k4c1 : Code := { maxStack := 4, maxLocals := 3, code := prog_10_method_2_code, exceptionTable := #[], attributes := #[] }
def k4m1 : Method := { name := "count", desc := "(J)J", sig := { parameters := [.long], returnType := some .long }, accessFlags := 1, code := some k4c1 }
/-- com/example/tremorgrid/tremorgrid/analysis/SlidingWindows -/
def k4 : Class := { plain "com/example/tremorgrid/tremorgrid/analysis/SlidingWindows" (some 3) with
  accessFlags := 49
  interfaces := #[]
  cf := some (fileOf pool4 17 #[] #[{ accessFlags := 1, nameIndex := 5, descriptorIndex := 40, attributes := #[] }, { accessFlags := 1, nameIndex := 45, descriptorIndex := 46, attributes := #[] }] 49 2 #[] #[{ accessFlags := 18, nameIndex := 20, descriptorIndex := 21, attributes := #[] }, { accessFlags := 18, nameIndex := 24, descriptorIndex := 21, attributes := #[] }])
  fields := #[{ name := "length", type := .int, accessFlags := 18, slot := 0, constantValue := 0 }, { name := "step", type := .int, accessFlags := 18, slot := 1, constantValue := 0 }]
  methods := #[k4m0, k4m1]
  instanceTypes := #[.int, .int]
  staticTypes := #[]
  resolved := Array.replicate 81 none
  statics := none }

def pool5 : Array CpInfo := pool [(1, u "java/lang/Cloneable"), (0, .class_ 1), (0, u "java/lang/Object"), (0, .class_ 3)] 3

/-- java/lang/Cloneable -/
def k5 : Class := { plain "java/lang/Cloneable" (some 0) with
  accessFlags := 1537
  interfaces := #[]
  cf := some (fileOf pool5 2 #[] #[] 1537 4 #[] #[])
  fields := #[]
  methods := #[]
  instanceTypes := #[]
  staticTypes := #[]
  resolved := Array.replicate 8 none
  statics := none }

def pool6 : Array CpInfo := pool [(1, u "java/io/Serializable"), (0, .class_ 1), (0, u "java/lang/Object"), (0, .class_ 3)] 3

/-- java/io/Serializable -/
def k6 : Class := { plain "java/io/Serializable" (some 0) with
  accessFlags := 1537
  interfaces := #[]
  cf := some (fileOf pool6 2 #[] #[] 1537 4 #[] #[])
  fields := #[]
  methods := #[]
  instanceTypes := #[]
  staticTypes := #[]
  resolved := Array.replicate 8 none
  statics := none }

/-- the primitive byte -/
def k7 : Class := { plain "byte" none with kind := .primitive 'B', accessFlags := 0x411 }
/-- [B -/
def k8 : Class := { plain "[B" (some 0) with kind := .array 7 .byte, interfaces := #[5, 6], accessFlags := 1041 }

/-- the primitive int -/
def k9 : Class := { plain "int" none with kind := .primitive 'I', accessFlags := 0x411 }
/-- [I -/
def k10 : Class := { plain "[I" (some 0) with kind := .array 9 .int, interfaces := #[5, 6], accessFlags := 1041 }

def heap : Heap := #[]
def classes : Array Class := #[k0, k1, k2, k3, k4, k5, k6, k7, k8, k9, k10]
def interned : List (Array UInt16 × Addr) := []
def slotsUsed : Nat := 0
def theMethod : MethodId := ⟨1, 1⟩
def args0 : Array Value := #[.long 100, .int 5, .int 7]
def aboutOver (below : List Frame) : State where
  vm := { classes := classes, interned := interned.toArray }
  heap := heap
  slotsUsed := slotsUsed
  threads := #[{ frames := .invoking theMethod args0 :: below }]
def below0 : List Frame := [.native { method := ⟨0, 0⟩, args := #[] }]
def about1 : State := aboutOver below0
def p0 : Program := .bare "" "" ""
def e0 : Env := launch0.env 0 0 0
theorem w_frames : about1.frames = Frame.invoking theMethod args0 :: below0 := rfl
set_option maxRecDepth 65536 in
theorem w_args : argsFit about1.vm theMethod args0 = true := by decide +kernel
set_option maxRecDepth 65536 in
theorem w_heap : heapFits about1 = true := by decide +kernel
set_option maxRecDepth 65536 in
theorem w_runnable : about1.curStatus? = some .runnable := by decide +kernel
set_option maxRecDepth 65536 in
theorem w_alone : about1.alone = true := by decide +kernel
set_option maxRecDepth 65536 in
theorem w_named : about1.methodNamed? x = some theMethod := by decide +kernel
set_option maxRecDepth 65536 in
theorem w_hears : about1.hears theMethod below0 = true := by decide +kernel
set_option maxRecDepth 65536 in
theorem w_ripe : about1.ripe theMethod args0 below0 = true := by decide +kernel
theorem w_running : about1.status = .running := rfl
set_option maxRecDepth 65536 in
theorem w_room : about1.hasRoom e0.platform room_1 = true :=
  launch0.hasRoom_least _ room_1 (by decide +kernel) (by decide +kernel) (by decide +kernel) (by decide +kernel) (by decide +kernel) (by decide +kernel)
theorem allAtoms_all (ts : List Jvm.Cond) (a : Array Jvm.Value) (st : Jvm.State) : (allAtoms ts).before a st = ts.all (fun c => c.before a st) := by
  induction ts with
  | nil => rfl
  | cons c t ih =>
    show (Jvm.Cond.and c (allAtoms t)).before a st = _
    rw [Jvm.Cond.before_and, ih, List.all_cons]
def words1 : List Jvm.Cond := Jvm.Cond.code x code maxLocals ret :: tables_1
/-- a 'code' word, met by the world's own term for the bytes: nothing is compared byte by byte -/
theorem code_word {y : MethodName} {bytes : ByteArray} {mx : Nat} {rt : Option FieldType} {a : Array Value} {s : State} {m : MethodId} {meth : Method} {c : Code} (h1 : s.methodNamed? y = some m) (h2 : s.vm.method? m = some meth) (h3 : meth.code = some c) (h4 : c.code = bytes)
    (h5 : (c.maxLocals == mx && c.exceptionTable.isEmpty && decide (c.maxStack ≤ mostOperands) && decide (meth.sig.returnType = rt) && !meth.locks && decide (parseMethodDescriptor y.desc = some meth.sig)) = true) : (Jvm.Cond.code y bytes mx rt).before a s = true := by
  simp only [Bool.and_eq_true, beq_iff_eq, Bool.not_eq_true', decide_eq_true_eq] at h5
  obtain ⟨⟨⟨⟨⟨g1, g2⟩, g3⟩, g4⟩, g5⟩, g6⟩ := h5
  simp [Cond.before, Cond.holds, Cond.value, h1, h2, h3, h4, g1, g2, g3, g4, g5, g6]
def isCode : Jvm.Cond → Bool
  | .code _ _ _ _ => true
  | _ => false
theorem all_split {L : List Jvm.Cond} {P : Jvm.Cond → Bool} (h1 : L.all (fun c => isCode c || P c) = true) (h2 : ∀ c ∈ L.filter isCode, P c = true) : L.all P = true := by
  refine List.all_eq_true.mpr fun c hc => ?_
  have h := List.all_eq_true.mp h1 c hc
  rcases Bool.eq_false_or_eq_true (isCode c) with hi | hi
  · exact h2 c (List.mem_filter.mpr ⟨hc, hi⟩)
  · simpa [hi] using h
set_option maxRecDepth 65536 in
theorem w_c0 : (Jvm.Cond.code x code maxLocals ret).before args0 about1 = true := code_word (m := ⟨1, 1⟩) (meth := k1m1) (c := k1c1) (by decide +kernel) rfl rfl rfl (by decide +kernel)
set_option maxRecDepth 65536 in
theorem w_c1 : (Jvm.Cond.code ({ cls := "java/lang/Math", name := "max", desc := "(II)I" } : Jvm.MethodName) jdk_29_method_65_code (2 : Nat) (Option.some Jvm.ClassFile.FieldType.int)).before args0 about1 = true := code_word (m := ⟨2, 1⟩) (meth := k2m1) (c := k2c1) (by decide +kernel) rfl rfl rfl (by decide +kernel)
set_option maxRecDepth 65536 in
theorem w_c2 : (Jvm.Cond.code ({ cls := "com/example/tremorgrid/tremorgrid/analysis/SlidingWindows", name := "<init>", desc := "(II)V" } : Jvm.MethodName) prog_10_method_1_code (3 : Nat) (Option.none : Option Jvm.ClassFile.FieldType)).before args0 about1 = true := code_word (m := ⟨4, 0⟩) (meth := k4m0) (c := k4c0) (by decide +kernel) rfl rfl rfl (by decide +kernel)
set_option maxRecDepth 65536 in
theorem w_c3 : (Jvm.Cond.code ({ cls := "java/lang/Record", name := "<init>", desc := "()V" } : Jvm.MethodName) jdk_30_method_1_code (1 : Nat) (Option.none : Option Jvm.ClassFile.FieldType)).before args0 about1 = true := code_word (m := ⟨3, 0⟩) (meth := k3m0) (c := k3c0) (by decide +kernel) rfl rfl rfl (by decide +kernel)
set_option maxRecDepth 65536 in
theorem w_c4 : (Jvm.Cond.code ({ cls := "java/lang/Object", name := "<init>", desc := "()V" } : Jvm.MethodName) object_method_1_code (1 : Nat) (Option.none : Option Jvm.ClassFile.FieldType)).before args0 about1 = true := code_word (m := ⟨0, 0⟩) (meth := k0m0) (c := k0c0) (by decide +kernel) rfl rfl rfl (by decide +kernel)
set_option maxRecDepth 65536 in
theorem w_c5 : (Jvm.Cond.code ({ cls := "com/example/tremorgrid/tremorgrid/analysis/SlidingWindows", name := "count", desc := "(J)J" } : Jvm.MethodName) prog_10_method_2_code (3 : Nat) (Option.some Jvm.ClassFile.FieldType.long)).before args0 about1 = true := code_word (m := ⟨4, 1⟩) (meth := k4m1) (c := k4c1) (by decide +kernel) rfl rfl rfl (by decide +kernel)
def codes1 : List Jvm.Cond := [Jvm.Cond.code x code maxLocals ret, Jvm.Cond.code ({ cls := "java/lang/Math", name := "max", desc := "(II)I" } : Jvm.MethodName) jdk_29_method_65_code (2 : Nat) (Option.some Jvm.ClassFile.FieldType.int), Jvm.Cond.code ({ cls := "com/example/tremorgrid/tremorgrid/analysis/SlidingWindows", name := "<init>", desc := "(II)V" } : Jvm.MethodName) prog_10_method_1_code (3 : Nat) (Option.none : Option Jvm.ClassFile.FieldType), Jvm.Cond.code ({ cls := "java/lang/Record", name := "<init>", desc := "()V" } : Jvm.MethodName) jdk_30_method_1_code (1 : Nat) (Option.none : Option Jvm.ClassFile.FieldType), Jvm.Cond.code ({ cls := "java/lang/Object", name := "<init>", desc := "()V" } : Jvm.MethodName) object_method_1_code (1 : Nat) (Option.none : Option Jvm.ClassFile.FieldType), Jvm.Cond.code ({ cls := "com/example/tremorgrid/tremorgrid/analysis/SlidingWindows", name := "count", desc := "(J)J" } : Jvm.MethodName) prog_10_method_2_code (3 : Nat) (Option.some Jvm.ClassFile.FieldType.long)]
set_option maxRecDepth 65536 in
theorem codes_eq : words1.filter isCode = codes1 := rfl
theorem w_codes : ∀ c ∈ words1.filter isCode, c.before args0 about1 = true := by
  rw [codes_eq]
  intro c hc
  simp only [codes1, List.mem_cons, List.not_mem_nil, or_false] at hc
  rcases hc with rfl | rfl | rfl | rfl | rfl | rfl
  · exact w_c0
  · exact w_c1
  · exact w_c2
  · exact w_c3
  · exact w_c4
  · exact w_c5
set_option maxRecDepth 65536 in
theorem w_t1 : (words1.take 24).all (fun c => isCode c || c.before args0 about1) = true := by decide +kernel
set_option maxRecDepth 65536 in
theorem w_t2 : (words1.drop 24).all (fun c => isCode c || c.before args0 about1) = true := by decide +kernel
theorem w_tables : (allAtoms (Jvm.Cond.code x code maxLocals ret :: tables_1)).before args0 about1 = true := by
  rw [allAtoms_all]
  show words1.all (fun c => c.before args0 about1) = true
  refine all_split ?_ w_codes
  rw [← List.take_append_drop 24 words1, List.all_append, w_t1, w_t2]
  rfl
set_option maxRecDepth 65536 in
theorem w_case : (Jvm.Cond.and given_1 narrow_1).before args0 about1 = true := by decide +kernel
theorem w_applies : (headSpec (Jvm.Cond.code x code maxLocals ret :: tables_1) room_1).applies x e0.platform about1 = true :=
  (Spec.applies_iff w_frames).mpr ⟨w_running, w_runnable, w_alone, w_named, w_hears, w_ripe, w_room, w_tables⟩
theorem atStart : AtStart classFile x code maxLocals ret World_1 tables_1 room_1 Calls_1 rest_1 Pre_1 launch0 p0 e0 about1 theMethod args0 below0 :=
  ⟨lists_1, trivial, launch0.admits_env _ _ _, launch0.least_env, fairChoices_fair.cas, fairChoices_fair.clock, w_frames, w_args, w_heap, w_applies, trivial, trivial, w_case⟩
end start1
theorem witness_1 : WitnessClaimed_1 := ⟨start1.p0, start1.e0, start1.about1, start1.theMethod, start1.args0, start1.below0, start1.atStart⟩
end Jvm.Pilot.@@N@@
