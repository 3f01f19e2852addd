import JvmDerived
import JvmDerived.Pilot.@@N@@Statement
import JvmDerived.Pilot.@@N@@Code
set_option linter.unusedVariables false
set_option linter.unusedSimpArgs false
namespace Jvm.Pilot.@@N@@
open Jvm Jvm.ClassFile Sem Op Lib Jvm.Free Jvm.Stand Jvm.LawKit Jvm.RoadKit Bundle Jvm.Pilot.@@N@@.Jvm.D
section OwnKit
variable {p : Program} {l : Launch} {e : Env} {R : Room} {s : State} {m : MethodId} {args : Array Value} {below : List Frame} {meth : Method} {c : Code} {T : State} {locs : List Loc} {cells slots : Nat} {Z : State} {a0 : Array Value} {h : Heap}
/-- the run from t ends, and Q holds of its end -/
def own_Fin (tb : Tables) (e : Env) (below : List Frame) (Q : Outcome → State → Prop) (t : State) : Prop := ∃ s₂ o, Steps tb e below t s₂ ∧ s₂.status = .running ∧ Ended s₂ below o ∧ Q o s₂
theorem own_go {tb : Tables} {Q : Outcome → State → Prop} {t t' : State} (k : ∀ z, Steps tb e below t' z → Steps tb e below t z) (f : own_Fin tb e below Q t') : own_Fin tb e below Q t := by
  obtain ⟨s₂, o, h1, h2⟩ := f
  exact ⟨s₂, o, k _ h1, h2⟩
/-- the run from t comes to a state of which G holds -/
def own_Go (tb : Tables) (e : Env) (below : List Frame) (G : State → Prop) (t : State) : Prop := ∃ t', G t' ∧ ∀ z, Steps tb e below t' z → Steps tb e below t z
theorem own_on {tb : Tables} {G : State → Prop} {t t' : State} (k : ∀ z, Steps tb e below t' z → Steps tb e below t z) (f : own_Go tb e below G t') : own_Go tb e below G t := by
  obtain ⟨t₂, h1, h2⟩ := f
  exact ⟨t₂, h1, fun z q => k z (h2 z q)⟩
theorem own_here {tb : Tables} {G : State → Prop} {t : State} (k : G t) : own_Go tb e below G t := ⟨t, k, fun _ q => q⟩
def own_End (s : State) (Q : Option Value → Heap → List Loc → Prop) (C S : Nat) (o : Outcome) (U : State) : Prop := ∃ v L, o = .returned v ∧ Q v U.heap L ∧ FrameEnd s o U L C S
variable {Q : Option Value → Heap → List Loc → Prop} {C S : Nat}
theorem own_retI (X : Stand p l e R s m args below meth c T locs cells slots) (hx : p.tables.exec = Jvm.exec) (hlk : meth.locks = false) {pc : Nat} {Ls : Array Slot} {z : Int32} {rest : List Value} (hret : meth.sig.returnType = some .int) (hd : decode c.code pc = .ok (.ireturn, 1)) (hq : Q (some (.int z)) T.heap locs) (hC : cells ≤ C) (hS : slots ≤ S) :
    own_Fin p.tables e below (own_End s Q C S) (T.setTop (mkF m pc Ls (.int z :: rest))) := by
  obtain ⟨fs, hr, hrun, hended, hW, hsame⟩ := X.leave (v := some (.int z)) (fun h => by rw [hret] at h; cases h) hlk
  exact ⟨_, _, retOut X hx hret rfl (Or.inl ⟨rfl, Or.inl rfl, _, rfl⟩) hd hr, hrun, hended, _, _, rfl, hq, ⟨_, rfl⟩, hW, hsame.mono hC hS⟩
theorem own_retN (X : Stand p l e R s m args below meth c T locs cells slots) (hx : p.tables.exec = Jvm.exec) (hlk : meth.locks = false) {pc : Nat} {Ls : Array Slot} {z : Int32} {rest : List Value} {t : FieldType} (hret : meth.sig.returnType = some t) (ht : t = .boolean ∨ t = .byte ∨ t = .char ∨ t = .short) (hd : decode c.code pc = .ok (.ireturn, 1)) (hq : Q (some (.int (nar t z))) T.heap locs) (hC : cells ≤ C) (hS : slots ≤ S) :
    own_Fin p.tables e below (own_End s Q C S) (T.setTop (mkF m pc Ls (.int z :: rest))) := by
  obtain ⟨fs, hr, hrun, hended, hW, hsame⟩ := X.leave (v := some (.int (nar t z))) (fun h => by rw [hret] at h; cases h) hlk
  exact ⟨_, _, retN X hx hret ht hd hr, hrun, hended, _, _, rfl, hq, ⟨_, rfl⟩, hW, hsame.mono hC hS⟩
theorem own_retJ (X : Stand p l e R s m args below meth c T locs cells slots) (hx : p.tables.exec = Jvm.exec) (hlk : meth.locks = false) {pc : Nat} {Ls : Array Slot} {z : Int64} {rest : List Value} (hret : meth.sig.returnType = some .long) (hd : decode c.code pc = .ok (.lreturn, 1)) (hq : Q (some (.long z)) T.heap locs) (hC : cells ≤ C) (hS : slots ≤ S) :
    own_Fin p.tables e below (own_End s Q C S) (T.setTop (mkF m pc Ls (.long z :: rest))) := by
  obtain ⟨fs, hr, hrun, hended, hW, hsame⟩ := X.leave (v := some (.long z)) (fun h => by rw [hret] at h; cases h) hlk
  exact ⟨_, _, retOut X hx hret rfl (Or.inr (Or.inl ⟨rfl, rfl, _, rfl⟩)) hd hr, hrun, hended, _, _, rfl, hq, ⟨_, rfl⟩, hW, hsame.mono hC hS⟩
theorem own_retA (X : Stand p l e R s m args below meth c T locs cells slots) (hx : p.tables.exec = Jvm.exec) (hlk : meth.locks = false) {pc : Nat} {Ls : Array Slot} {w : Value} {rest : List Value} {t : FieldType} (hret : meth.sig.returnType = some t) (ht : t.isReference = true) (hw : w.isRef = true) (hd : decode c.code pc = .ok (.areturn, 1)) (hq : Q (some w) T.heap locs) (hC : cells ≤ C) (hS : slots ≤ S) :
    own_Fin p.tables e below (own_End s Q C S) (T.setTop (mkF m pc Ls (w :: rest))) := by
  obtain ⟨fs, hr, hrun, hended, hW, hsame⟩ := X.leave (v := some w) (fun h => by rw [hret] at h; cases h) hlk
  have hn : narrow t w = w := by cases t <;> first | (cases ht; done) | (cases w <;> first | (cases hw; done) | rfl)
  exact ⟨_, _, retOut X hx hret hn (Or.inr (Or.inr (Or.inr (Or.inr ⟨rfl, ht, hw⟩)))) hd hr, hrun, hended, _, _, rfl, hq, ⟨_, rfl⟩, hW, hsame.mono hC hS⟩
theorem own_retV (X : Stand p l e R s m args below meth c T locs cells slots) (hx : p.tables.exec = Jvm.exec) (hlk : meth.locks = false) {pc : Nat} {Ls : Array Slot} (hret : meth.sig.returnType = none) (hd : decode c.code pc = .ok (.return_, 1)) (hq : Q none T.heap locs) (hC : cells ≤ C) (hS : slots ≤ S) :
    own_Fin p.tables e below (own_End s Q C S) (T.setTop (mkF m pc Ls [])) := by
  obtain ⟨fs, hr, hrun, hended, hW, hsame⟩ := X.leave (v := none) (fun _ => rfl) hlk
  exact ⟨_, _, X.returnOut hx hret hd hr, hrun, hended, _, _, rfl, hq, ⟨_, rfl⟩, hW, hsame.mono hC hS⟩
/-- what a body's contract says: called with as' at the heap h0 it returns, and Q holds of what it returns, of the heap and of the places written -/
def own_Met (l : Launch) (y : MethodName) (bytes : ByteArray) (maxL : Nat) (ret : Option FieldType) (rm : Room) (ws : List Jvm.Cond) (as' : Array Value) (Z : State) (h0 : Heap) (C S : Nat) (Q : Option Value → Heap → List Loc → Prop) : Prop :=
  MetFree l y (head1 (Jvm.Cond.code y bytes maxL ret :: ws) rm) (fun a U => a = as' ∧ Z.Warmed39 U.vm ∧ U.heap = h0) (fun _ _ _ _ _ => True) (fun _ U o U' => ∃ v L, o = .returned v ∧ Q v U'.heap L ∧ FrameEnd U o U' L C S)
theorem own_met {y : MethodName} {bytes : ByteArray} {maxL : Nat} {ret : Option FieldType} {rm : Room} {ws : List Jvm.Cond} {as' : Array Value} {h0 : Heap} (hy : plainFor y = true)
    (body : ∀ (p : Program) (e : Env) (s : State) (m : MethodId) (below : List Frame) (meth : Method) (c : Code) (s₁ : State), p.tables.exec = Jvm.exec → c.code = bytes → c.maxLocals = maxL → s.vm.findClass y.cls = some m.cls → meth.name = y.name → meth.sig.returnType = ret → meth.locks = false → Z.Warmed39 s.vm → s₁.heap = h0 → Stand p l e rm s m as' below meth c s₁ [] 0 0 → own_Fin p.tables e below (own_End s Q C S) (s₁.setTop (entryFrame m as' maxL))) :
    own_Met l y bytes maxL ret rm ws as' Z h0 C S Q := by
  refine MetFree.of_bodySF hy hisR ?_
  intro p e s m args below meth c s₁ Bd hml0 hP hK
  obtain ⟨rfl, hZ, hh⟩ := hP
  have X0 : Stand p l e rm s m args below meth c s₁ [] 0 0 := Stand.of_body Bd
  exact body p e s m below meth c s₁ Bd.exec Bd.bytes hml0 (findClass_of_methodNamed Bd.named) (name_of_methodNamed Bd.named Bd.method).1 Bd.returns Bd.notSynchronized hZ (by rw [← hh, Bd.state]; rfl) X0
section Calls
variable {own : String} {index : Nat} {y : MethodName} {bytes : ByteArray} {maxL : Nat} {ret : Option FieldType} {rm : Room} {as' : Array Value}
theorem own_callS (X : Stand p l e R s m args below meth c T locs cells slots) (hx : p.tables.exec = Jvm.exec) (hZ : Z.Warmed39 s.vm) (hown : s.vm.findClass own = some m.cls) (w1 : (Jvm.Cond.methodLink own index y).before a0 Z = true) (w2 : (Jvm.Cond.static y).before a0 Z = true) (w3 : (Jvm.Cond.initialized y.cls).before a0 Z = true) (w4 : (Jvm.Cond.code y bytes maxL ret).before a0 Z = true)
    (hy : y.cls ≠ "java/lang/invoke/MethodHandle" ∧ y.cls ≠ "java/lang/invoke/VarHandle") {W : Nat} (hM : own_Met l y bytes maxL ret rm [] as' Z h rm.cells rm.slots Q) (hf : rm.frames + 1 ≤ R.frames) (hl : W + (maxL + 11) + rm.locals ≤ R.locals) (eT : T.heap = h)
    {g : JFrame} (hg : g.method = m) (hsize : g.locals.size = c.maxLocals) {argsL rest : List Value} (has : argsL.toArray = as') (hlen : ∀ sig, parseMethodDescriptor y.desc = some sig → argsL.length = sig.parameters.length)
    (hstack : g.stack = argsL.reverse ++ rest) (hW : 2 * g.monitorRoom + (rest.map fun v => v.category).sum ≤ W) (hdg : decode c.code g.pc = .ok (.invokestatic index, 3)) (hc : cells + rm.cells ≤ R.cells) (hs : slots + rm.slots ≤ R.slots) :
    ∃ (v : Option Value) (T' : State) (L' : List Loc), Stand p l e R s m args below meth c T' (locs ++ L') (cells + rm.cells) (slots + rm.slots) ∧ Q v T'.heap L' ∧
      ∀ t, Steps p.tables e below (T'.setTop { g with pc := g.pc + 3, stack := v.toList ++ rest }) t → Steps p.tables e below (T.setTop g) t := by
  obtain ⟨v, vm1, ⟨T', L, k, n⟩, -, X', ⟨L', hQ, e1, e2, e3⟩, st⟩ := Jvm.LawKit.callS X hx hown (mvT hZ w1) (mvT hZ w2) (mvT hZ w3) (mvT hZ w4) hy (backOf (W := W) hM hZ w4 w3 hf hl) hg hsize hlen hstack hW hdg (fun _ _ => ⟨has, eT, hc, hs⟩)
  dsimp only [Pt.U, Pt.locs, Pt.cells, Pt.slots] at X' e1 e2 e3 st hQ
  subst e1 e2 e3
  exact ⟨v, T', L', X', hQ, st⟩
theorem own_callC (X : Stand p l e R s m args below meth c T locs cells slots) (hx : p.tables.exec = Jvm.exec) (hZ : Z.Warmed39 s.vm) (hown : s.vm.findClass own = some m.cls) (hnm : y.name = "<init>") (w1 : (Jvm.Cond.methodLink own index y).before a0 Z = true) (w2 : (Jvm.Cond.instanceMethod y).before a0 Z = true) (w3 : (Jvm.Cond.initialized y.cls).before a0 Z = true) (w4 : (Jvm.Cond.code y bytes maxL none).before a0 Z = true)
    (hy : y.cls ≠ "java/lang/invoke/MethodHandle" ∧ y.cls ≠ "java/lang/invoke/VarHandle") {W : Nat} (hM : own_Met l y bytes maxL none rm [] as' Z h rm.cells rm.slots Q) (hf : rm.frames + 1 ≤ R.frames) (hl : W + (maxL + 11) + rm.locals ≤ R.locals) (eT : T.heap = h)
    {g : JFrame} (hg : g.method = m) (hsize : g.locals.size = c.maxLocals) {a : Addr} {argsL rest : List Value} (has : (.ref a :: argsL).toArray = as') (hlen : ∀ sig, parseMethodDescriptor y.desc = some sig → argsL.length = sig.parameters.length)
    (hstack : g.stack = argsL.reverse ++ .ref a :: rest) (hW : 2 * g.monitorRoom + (rest.map fun v => v.category).sum ≤ W) (hdg : decode c.code g.pc = .ok (.invokespecial index, 3)) (hc : cells + rm.cells ≤ R.cells) (hs : slots + rm.slots ≤ R.slots) :
    ∃ (v : Option Value) (T' : State) (L' : List Loc), Stand p l e R s m args below meth c T' (locs ++ L') (cells + rm.cells) (slots + rm.slots) ∧ Q v T'.heap L' ∧
      ∀ t, Steps p.tables e below (T'.setTop { g with pc := g.pc + 3, stack := v.toList ++ rest }) t → Steps p.tables e below (T.setTop g) t := by
  obtain ⟨v, vm1, ⟨T', L, k, n⟩, -, X', ⟨L', hQ, e1, e2, e3⟩, st⟩ := X.specialBack hx hnm hown (mvT hZ w1) (mvT hZ w2) (mvT hZ w4) hy (backOf (W := W) hM hZ w4 w3 hf hl) hg hsize (Steps.refl _) hlen hstack hW hdg (fun _ _ => ⟨has, eT, hc, hs⟩)
  dsimp only [Pt.U, Pt.locs, Pt.cells, Pt.slots] at X' e1 e2 e3 st hQ
  subst e1 e2 e3
  exact ⟨v, T', L', X', hQ, fun _ k => st.trans k⟩
theorem own_callV (X : Stand p l e R s m args below meth c T locs cells slots) (hx : p.tables.exec = Jvm.exec) (hZ : Z.Warmed39 s.vm) (hown : s.vm.findClass own = some m.cls) {D : String} (w1 : (Jvm.Cond.methodLink own index y).before a0 Z = true) (w2 : (Jvm.Cond.declares y).before a0 Z = true) (w3 : (Jvm.Cond.selects D y y).before a0 Z = true) (w4 : (Jvm.Cond.instanceMethod y).before a0 Z = true) (w5 : (Jvm.Cond.initialized y.cls).before a0 Z = true) (w6 : (Jvm.Cond.code y bytes maxL ret).before a0 Z = true)
    (hy : y.cls ≠ "java/lang/invoke/MethodHandle" ∧ y.cls ≠ "java/lang/invoke/VarHandle") {W : Nat} (hM : own_Met l y bytes maxL ret rm [] as' Z h rm.cells rm.slots Q) (hf : rm.frames + 1 ≤ R.frames) (hl : W + (maxL + 11) + rm.locals ≤ R.locals) (eT : T.heap = h) {a : Addr} (E : Exa Z h a D)
    {g : JFrame} (hg : g.method = m) (hsize : g.locals.size = c.maxLocals) {argsL rest : List Value} (has : (.ref a :: argsL).toArray = as') (hlen : ∀ sig, parseMethodDescriptor y.desc = some sig → argsL.length = sig.parameters.length)
    (hstack : g.stack = argsL.reverse ++ .ref a :: rest) (hW : 2 * g.monitorRoom + (rest.map fun v => v.category).sum ≤ W) (hdg : decode c.code g.pc = .ok (.invokevirtual index, 3)) (hc : cells + rm.cells ≤ R.cells) (hs : slots + rm.slots ≤ R.slots) :
    ∃ (v : Option Value) (T' : State) (L' : List Loc), Stand p l e R s m args below meth c T' (locs ++ L') (cells + rm.cells) (slots + rm.slots) ∧ Q v T'.heap L' ∧
      ∀ t, Steps p.tables e below (T'.setTop { g with pc := g.pc + 3, stack := v.toList ++ rest }) t → Steps p.tables e below (T.setTop g) t := by
  obtain ⟨cq, kq, qa, qb, qc⟩ := isOf hZ eT E
  obtain ⟨v, vm1, ⟨T', L, k, n⟩, -, X', ⟨L', hQ, e1, e2, e3⟩, st⟩ := X.virtualBack hx hown (mvT hZ w1) (mvT hZ w2) (notFace_of_selects (args := #[]) (mvT hZ w3)) (mvT hZ w3) (mvT hZ w4) hy (backOf (W := W) hM hZ w6 w5 hf hl) qa qc hg hsize (Steps.refl _) hlen hstack hW hdg (fun _ _ => ⟨has, eT, hc, hs⟩)
  dsimp only [Pt.U, Pt.locs, Pt.cells, Pt.slots] at X' e1 e2 e3 st hQ
  subst e1 e2 e3
  exact ⟨v, T', L', X', hQ, fun _ k => st.trans k⟩
/-- as own_callC, own_callV, where who pays is given -/
theorem own_callCB (X : Stand p l e R s m args below meth c T locs cells slots) (hx : p.tables.exec = Jvm.exec) (hZ : Z.Warmed39 s.vm) (hown : s.vm.findClass own = some m.cls) (hnm : y.name = "<init>") (w1 : (Jvm.Cond.methodLink own index y).before a0 Z = true) (w2 : (Jvm.Cond.instanceMethod y).before a0 Z = true) (w4 : (Jvm.Cond.code y bytes maxL none).before a0 Z = true)
    (hy : y.cls ≠ "java/lang/invoke/MethodHandle" ∧ y.cls ≠ "java/lang/invoke/VarHandle") {W kc kn : Nat} (hK : Back l R p e below s args y 3 W (fun P a => a = as' ∧ P.U.heap = h ∧ P.cells + kc ≤ R.cells ∧ P.slots + kn ≤ R.slots) (fun P _ v B => ∃ L, Q v B.U.heap L ∧ B.locs = P.locs ++ L ∧ B.cells = P.cells + kc ∧ B.slots = P.slots + kn)) (eT : T.heap = h)
    {g : JFrame} (hg : g.method = m) (hsize : g.locals.size = c.maxLocals) {a : Addr} {argsL rest : List Value} (has : (.ref a :: argsL).toArray = as') (hlen : ∀ sig, parseMethodDescriptor y.desc = some sig → argsL.length = sig.parameters.length)
    (hstack : g.stack = argsL.reverse ++ .ref a :: rest) (hW : 2 * g.monitorRoom + (rest.map fun v => v.category).sum ≤ W) (hdg : decode c.code g.pc = .ok (.invokespecial index, 3)) (hc : cells + kc ≤ R.cells) (hs : slots + kn ≤ R.slots) :
    ∃ (v : Option Value) (T' : State) (L' : List Loc), Stand p l e R s m args below meth c T' (locs ++ L') (cells + kc) (slots + kn) ∧ Q v T'.heap L' ∧
      ∀ t, Steps p.tables e below (T'.setTop { g with pc := g.pc + 3, stack := v.toList ++ rest }) t → Steps p.tables e below (T.setTop g) t := by
  obtain ⟨v, vm1, ⟨T', L, k, n⟩, -, X', ⟨L', hQ, e1, e2, e3⟩, st⟩ := X.specialBack hx hnm hown (mvT hZ w1) (mvT hZ w2) (mvT hZ w4) hy hK hg hsize (Steps.refl _) hlen hstack hW hdg (fun _ _ => ⟨has, eT, hc, hs⟩)
  dsimp only [Pt.U, Pt.locs, Pt.cells, Pt.slots] at X' e1 e2 e3 st hQ
  subst e1 e2 e3
  exact ⟨v, T', L', X', hQ, fun _ k => st.trans k⟩
theorem own_callVB (X : Stand p l e R s m args below meth c T locs cells slots) (hx : p.tables.exec = Jvm.exec) (hZ : Z.Warmed39 s.vm) (hown : s.vm.findClass own = some m.cls) {D : String} (w1 : (Jvm.Cond.methodLink own index y).before a0 Z = true) (w2 : (Jvm.Cond.declares y).before a0 Z = true) (w3 : (Jvm.Cond.selects D y y).before a0 Z = true) (w4 : (Jvm.Cond.instanceMethod y).before a0 Z = true)
    (hy : y.cls ≠ "java/lang/invoke/MethodHandle" ∧ y.cls ≠ "java/lang/invoke/VarHandle") {W kc kn : Nat} {Qb : Option Value → State → List Loc → Prop} (hK : Back l R p e below s args y 3 W (fun P a => a = as' ∧ P.U.heap = h ∧ P.cells + kc ≤ R.cells ∧ P.slots + kn ≤ R.slots) (fun P _ v B => ∃ L, Qb v B.U L ∧ B.locs = P.locs ++ L ∧ B.cells = P.cells + kc ∧ B.slots = P.slots + kn)) (eT : T.heap = h) {a : Addr} (E : Exa Z h a D)
    {g : JFrame} (hg : g.method = m) (hsize : g.locals.size = c.maxLocals) {argsL rest : List Value} (has : (.ref a :: argsL).toArray = as') (hlen : ∀ sig, parseMethodDescriptor y.desc = some sig → argsL.length = sig.parameters.length)
    (hstack : g.stack = argsL.reverse ++ .ref a :: rest) (hW : 2 * g.monitorRoom + (rest.map fun v => v.category).sum ≤ W) (hdg : decode c.code g.pc = .ok (.invokevirtual index, 3)) (hc : cells + kc ≤ R.cells) (hs : slots + kn ≤ R.slots) :
    ∃ (v : Option Value) (T' : State) (L' : List Loc), Stand p l e R s m args below meth c T' (locs ++ L') (cells + kc) (slots + kn) ∧ Qb v T' L' ∧
      ∀ t, Steps p.tables e below (T'.setTop { g with pc := g.pc + 3, stack := v.toList ++ rest }) t → Steps p.tables e below (T.setTop g) t := by
  obtain ⟨cq, kq, qa, qb, qc⟩ := isOf hZ eT E
  obtain ⟨v, vm1, ⟨T', L, k, n⟩, -, X', ⟨L', hQ, e1, e2, e3⟩, st⟩ := X.virtualBack hx hown (mvT hZ w1) (mvT hZ w2) (notFace_of_selects (args := #[]) (mvT hZ w3)) (mvT hZ w3) (mvT hZ w4) hy hK qa qc hg hsize (Steps.refl _) hlen hstack hW hdg (fun _ _ => ⟨has, eT, hc, hs⟩)
  dsimp only [Pt.U, Pt.locs, Pt.cells, Pt.slots] at X' e1 e2 e3 st hQ
  subst e1 e2 e3
  exact ⟨v, T', L', X', hQ, fun _ k => st.trans k⟩
end Calls
section Arrays
variable {a : Addr} {k : ClassId} {ty : FieldType} {z : Int32} {vs : List Value} {dv : Value}
theorem own_alen (X : Stand p l e R s m args below meth c T locs cells slots) (hx : p.tables.exec = Jvm.exec) (hZ : Z.Warmed39 s.vm) (eT : T.heap = h) (V : Arv Z h a k ty z vs dv) {g : JFrame} (hg : g.method = m) {rest : List Value} (hs : g.stack = .ref a :: rest) (hd : decode c.code g.pc = .ok (.arraylength, 1)) {target : State}
    (hr : Steps p.tables e below (T.setTop { g with pc := g.pc + 1, stack := .int z :: rest }) target) : Steps p.tables e below (T.setTop g) target := by
  obtain ⟨cl, Ar, -, S, M, -, -⟩ := V
  refine X.arraylength hx (cell := cl) (by rw [eT]; exact Ar.1) (State.isArrayOf_alike hZ.alike Ar.2.1) hg hs hd _ ?_
  rw [len_of S M]; exact hr
theorem own_aald {C : String} (X : Stand p l e R s m args below meth c T locs cells slots) (hx : p.tables.exec = Jvm.exec) (hZ : Z.Warmed39 s.vm) (eT : T.heap = h) (V : Arv Z h a k (.object C) z vs dv) {j : Int32} (h1 : ¬ j < 0) (h2 : j < z) {g : JFrame} (hg : g.method = m) {rest : List Value} (hs : g.stack = .int j :: .ref a :: rest) (hd : decode c.code g.pc = .ok (.aaload, 1)) {target : State}
    (hr : Steps p.tables e below (T.setTop { g with pc := g.pc + 1, stack := vs.getD j.toNatClampNeg dv :: rest }) target) : Steps p.tables e below (T.setTop g) target := by
  obtain ⟨cl, Ar, -, S, M, H, -⟩ := V
  have hin := inb_of S ⟨h1, h2⟩
  exact X.aaload hx (j := j) (v := vs.getD j.toNatClampNeg dv) (by rw [eT]; exact Ar.1) (State.isArrayOf_alike hZ.alike Ar.2.1) rfl Ar.2.2 hin (Has.at H hin rfl) hg hs hd _ hr
end Arrays
/-- a body that returns r and leaves the heap as it was -/
def own_QP (r : Option Value) (h0 : Heap) (n0 : Nat) (v : Option Value) (h : Heap) (L : List Loc) : Prop := v = r ∧ Fr n0 L ∧ h = h0
end OwnKit
theorem d1_0 : decode prog_2_method_9_code 0 = .ok (.iload_n 0, 1) := by decide +kernel
theorem d1_1 : decode prog_2_method_9_code 1 = .ok (.bipush 11, 2) := by decide +kernel
theorem d1_3 : decode prog_2_method_9_code 3 = .ok (.if_icmp .lt 9, 3) := by decide +kernel
theorem d1_6 : decode prog_2_method_9_code 6 = .ok (.getstatic 130, 3) := by decide +kernel
theorem d1_9 : decode prog_2_method_9_code 9 = .ok (.goto 18, 3) := by decide +kernel
theorem d1_12 : decode prog_2_method_9_code 12 = .ok (.iload_n 0, 1) := by decide +kernel
theorem d1_13 : decode prog_2_method_9_code 13 = .ok (.bipush 9, 2) := by decide +kernel
theorem d1_15 : decode prog_2_method_9_code 15 = .ok (.if_icmp .lt 9, 3) := by decide +kernel
theorem d1_18 : decode prog_2_method_9_code 18 = .ok (.getstatic 133, 3) := by decide +kernel
theorem d1_21 : decode prog_2_method_9_code 21 = .ok (.goto 6, 3) := by decide +kernel
theorem d1_24 : decode prog_2_method_9_code 24 = .ok (.getstatic 136, 3) := by decide +kernel
theorem d1_27 : decode prog_2_method_9_code 27 = .ok (.areturn, 1) := by decide +kernel
theorem pn0 : plainName "com/example/tremorgrid/tremorgrid/analysis/Classifier" = true := by first | (simp [plainName, overriddenIn]; done) | decide +kernel
theorem pd0 : parseMethodDescriptor "(I)Lcom/example/tremorgrid/tremorgrid/analysis/Classifier$Verdict;" = some ⟨[.int], some (.object "com/example/tremorgrid/tremorgrid/analysis/Classifier$Verdict")⟩ := by decide +kernel
theorem ef1 (m : MethodId) (i1 : Int32) : entryFrame m #[(.int i1)] 1 = mkF m 0 #[.val (.int i1)] [] := by first | (simp [entryFrame, mkF, argsToLocals, Value.category]; done) | rfl
def f1 (rS : Addr) (rN : Addr) (rP : Addr) (i1 : Int32) : Addr := (if i1 < (11 : Int32) then (if i1 < (9 : Int32) then rP else rN) else rS)
set_option maxRecDepth 65536 in
set_option maxHeartbeats 40000000 in
theorem rm1 (l : Launch) (Z : State) (a0 : Array Value) (hw : ∀ d ∈ tables_1, d.before a0 Z = true) (ws : List Jvm.Cond) (i1 : Int32) (h0 : Heap) (n0 : Nat) (Z0 : n0 ≤ h0.size) (rS : Addr) (rN : Addr) (rP : Addr) (SrS : Sta Z h0 "com/example/tremorgrid/tremorgrid/analysis/Classifier$Verdict" "STRICTLY" "Lcom/example/tremorgrid/tremorgrid/analysis/Classifier$Verdict;" (.ref rS)) (SrN : Sta Z h0 "com/example/tremorgrid/tremorgrid/analysis/Classifier$Verdict" "NOT_STRICTLY" "Lcom/example/tremorgrid/tremorgrid/analysis/Classifier$Verdict;" (.ref rN)) (SrP : Sta Z h0 "com/example/tremorgrid/tremorgrid/analysis/Classifier$Verdict" "PERHAPS" "Lcom/example/tremorgrid/tremorgrid/analysis/Classifier$Verdict;" (.ref rP)) :
    own_Met l (⟨"com/example/tremorgrid/tremorgrid/analysis/Classifier", "verdictOf", "(I)Lcom/example/tremorgrid/tremorgrid/analysis/Classifier$Verdict;"⟩ : MethodName) prog_2_method_9_code 1 (some (.object "com/example/tremorgrid/tremorgrid/analysis/Classifier$Verdict")) ({ frames := 0, cells := 0, slots := 0, locals := 0 } : Room) ws #[(.int i1)] Z h0 0 0 (own_QP (some (.ref (f1 rS rN rP i1))) h0 n0) := by
  refine own_met (plainFor_of_name pn0) ?_
  intro p e s m below meth c s₁ hx hby hml hown hnm hret hlk hZ e0 X0
  have hml : c.maxLocals = 1 := hml
  have N0 := Fr.nil n0
  have K0 := Keep.refl h0 []
  refine own_go (fun _ k => castTop (ef1 m i1) k) ?_
  show own_Fin p.tables e below _ (s₁.setTop (mkF m 0 #[.val (.int i1)] []))
  refine own_go (fun _ k => XS.iloadN X0.here hx rfl (hb hby d1_0) rfl k) ?_
  show own_Fin p.tables e below _ (s₁.setTop (mkF m 1 #[.val (.int i1)] [(.int i1)]))
  refine own_go (fun _ k => XT.bipushV X0.here hx rfl (11 : Int32) (hb hby d1_1) (by decide) k) ?_
  show own_Fin p.tables e below _ (s₁.setTop (mkF m 3 #[.val (.int i1)] [(.int (11 : Int32)), (.int i1)]))
  by_cases hc1 : i1 < (11 : Int32)
  · refine own_go (fun _ k => XS.icmpYes X0.here hx rfl (pc0 := 3) (pc' := 12) rfl (hb hby d1_3) rfl (XT.ii_lt_t hc1) (by decide) (by decide) k) ?_
    show own_Fin p.tables e below _ (s₁.setTop (mkF m 12 #[.val (.int i1)] []))
    refine own_go (fun _ k => XS.iloadN X0.here hx rfl (hb hby d1_12) rfl k) ?_
    show own_Fin p.tables e below _ (s₁.setTop (mkF m 13 #[.val (.int i1)] [(.int i1)]))
    refine own_go (fun _ k => XT.bipushV X0.here hx rfl (9 : Int32) (hb hby d1_13) (by decide) k) ?_
    show own_Fin p.tables e below _ (s₁.setTop (mkF m 15 #[.val (.int i1)] [(.int (9 : Int32)), (.int i1)]))
    by_cases hc2 : i1 < (9 : Int32)
    · refine own_go (fun _ k => XS.icmpYes X0.here hx rfl (pc0 := 15) (pc' := 24) rfl (hb hby d1_15) rfl (XT.ii_lt_t hc2) (by decide) (by decide) k) ?_
      show own_Fin p.tables e below _ (s₁.setTop (mkF m 24 #[.val (.int i1)] []))
      obtain ⟨T3, X3, e3, st3⟩ := getS (host := "") X0 hx hZ hown (hw _ (List.mem_of_getElem? (i := 4) rfl)) Via.refl e0 SrP (g := (mkF m 24 #[.val (.int i1)] [])) rfl (hb hby d1_24)
      refine own_go st3 ?_
      show own_Fin p.tables e below _ (T3.setTop (mkF m 27 #[.val (.int i1)] [(.ref rP)]))
      refine own_retA X3 hx hlk hret rfl rfl (hb hby d1_27) ?_ (by decide) (by decide)
      exact ⟨by rw [show f1 rS rN rP i1 = rP from by simp only [f1, if_pos hc1, if_pos hc2]] <;> rfl, N0, e3⟩
    · refine own_go (fun _ k => XS.icmpNo X0.here hx rfl (hb hby d1_15) rfl (XT.ii_lt_f hc2) k) ?_
      show own_Fin p.tables e below _ (s₁.setTop (mkF m 18 #[.val (.int i1)] []))
      obtain ⟨T4, X4, e4, st4⟩ := getS (host := "") X0 hx hZ hown (hw _ (List.mem_of_getElem? (i := 20) rfl)) Via.refl e0 SrN (g := (mkF m 18 #[.val (.int i1)] [])) rfl (hb hby d1_18)
      refine own_go st4 ?_
      show own_Fin p.tables e below _ (T4.setTop (mkF m 21 #[.val (.int i1)] [(.ref rN)]))
      refine own_go (fun _ k => XS.goto X4.here hx rfl (pc0 := 21) (pc' := 27) rfl (hb hby d1_21) (by decide) (by decide) k) ?_
      show own_Fin p.tables e below _ (T4.setTop (mkF m 27 #[.val (.int i1)] [(.ref rN)]))
      refine own_retA X4 hx hlk hret rfl rfl (hb hby d1_27) ?_ (by decide) (by decide)
      exact ⟨by rw [show f1 rS rN rP i1 = rN from by simp only [f1, if_pos hc1, if_neg hc2]] <;> rfl, N0, e4⟩
  · refine own_go (fun _ k => XS.icmpNo X0.here hx rfl (hb hby d1_3) rfl (XT.ii_lt_f hc1) k) ?_
    show own_Fin p.tables e below _ (s₁.setTop (mkF m 6 #[.val (.int i1)] []))
    obtain ⟨T5, X5, e5, st5⟩ := getS (host := "") X0 hx hZ hown (hw _ (List.mem_of_getElem? (i := 19) rfl)) Via.refl e0 SrS (g := (mkF m 6 #[.val (.int i1)] [])) rfl (hb hby d1_6)
    refine own_go st5 ?_
    show own_Fin p.tables e below _ (T5.setTop (mkF m 9 #[.val (.int i1)] [(.ref rS)]))
    refine own_go (fun _ k => XS.goto X5.here hx rfl (pc0 := 9) (pc' := 27) rfl (hb hby d1_9) (by decide) (by decide) k) ?_
    show own_Fin p.tables e below _ (T5.setTop (mkF m 27 #[.val (.int i1)] [(.ref rS)]))
    refine own_retA X5 hx hlk hret rfl rfl (hb hby d1_27) ?_ (by decide) (by decide)
    exact ⟨by rw [show f1 rS rN rP i1 = rS from by simp only [f1, if_neg hc1]] <;> rfl, N0, e5⟩
theorem d2_0 : decode method_2_code 0 = .ok (.iload_n 0, 1) := by decide +kernel
theorem d2_1 : decode method_2_code 1 = .ok (.bipush 10, 2) := by decide +kernel
theorem d2_3 : decode method_2_code 3 = .ok (.if_icmp .le 7, 3) := by decide +kernel
theorem d2_6 : decode method_2_code 6 = .ok (.getstatic 7, 3) := by decide +kernel
theorem d2_9 : decode method_2_code 9 = .ok (.areturn, 1) := by decide +kernel
theorem d2_10 : decode method_2_code 10 = .ok (.iload_n 0, 1) := by decide +kernel
theorem d2_11 : decode method_2_code 11 = .ok (.bipush 9, 2) := by decide +kernel
theorem d2_13 : decode method_2_code 13 = .ok (.if_icmp .eq 9, 3) := by decide +kernel
theorem d2_16 : decode method_2_code 16 = .ok (.iload_n 0, 1) := by decide +kernel
theorem d2_17 : decode method_2_code 17 = .ok (.bipush 10, 2) := by decide +kernel
theorem d2_19 : decode method_2_code 19 = .ok (.if_icmp .ne 7, 3) := by decide +kernel
theorem d2_22 : decode method_2_code 22 = .ok (.getstatic 13, 3) := by decide +kernel
theorem d2_25 : decode method_2_code 25 = .ok (.areturn, 1) := by decide +kernel
theorem d2_26 : decode method_2_code 26 = .ok (.getstatic 16, 3) := by decide +kernel
theorem d2_29 : decode method_2_code 29 = .ok (.areturn, 1) := by decide +kernel
theorem pn1 : plainName "com/example/tremorgrid/tremorgrid/analysis/ClassifierVerdictOfPinLaw" = true := by first | (simp [plainName, overriddenIn]; done) | decide +kernel
theorem ef2 (m : MethodId) (i1 : Int32) : entryFrame m #[(.int i1)] 1 = mkF m 0 #[.val (.int i1)] [] := by first | (simp [entryFrame, mkF, argsToLocals, Value.category]; done) | rfl
def f2 (rS : Addr) (rN : Addr) (rP : Addr) (i1 : Int32) : Addr := (if (10 : Int32) < i1 then rS else (if i1 = (9 : Int32) then rN else (if i1 = (10 : Int32) then rN else rP)))
set_option maxRecDepth 65536 in
set_option maxHeartbeats 40000000 in
theorem rm2 (l : Launch) (Z : State) (a0 : Array Value) (hw : ∀ d ∈ tables_1, d.before a0 Z = true) (ws : List Jvm.Cond) (i1 : Int32) (h0 : Heap) (n0 : Nat) (Z0 : n0 ≤ h0.size) (rS : Addr) (rN : Addr) (rP : Addr) (SrS : Sta Z h0 "com/example/tremorgrid/tremorgrid/analysis/Classifier$Verdict" "STRICTLY" "Lcom/example/tremorgrid/tremorgrid/analysis/Classifier$Verdict;" (.ref rS)) (SrN : Sta Z h0 "com/example/tremorgrid/tremorgrid/analysis/Classifier$Verdict" "NOT_STRICTLY" "Lcom/example/tremorgrid/tremorgrid/analysis/Classifier$Verdict;" (.ref rN)) (SrP : Sta Z h0 "com/example/tremorgrid/tremorgrid/analysis/Classifier$Verdict" "PERHAPS" "Lcom/example/tremorgrid/tremorgrid/analysis/Classifier$Verdict;" (.ref rP)) :
    own_Met l (⟨"com/example/tremorgrid/tremorgrid/analysis/ClassifierVerdictOfPinLaw", "expected", "(I)Lcom/example/tremorgrid/tremorgrid/analysis/Classifier$Verdict;"⟩ : MethodName) method_2_code 1 (some (.object "com/example/tremorgrid/tremorgrid/analysis/Classifier$Verdict")) ({ frames := 0, cells := 0, slots := 0, locals := 0 } : Room) ws #[(.int i1)] Z h0 0 0 (own_QP (some (.ref (f2 rS rN rP i1))) h0 n0) := by
  refine own_met (plainFor_of_name pn1) ?_
  intro p e s m below meth c s₁ hx hby hml hown hnm hret hlk hZ e0 X0
  have hml : c.maxLocals = 1 := hml
  have N0 := Fr.nil n0
  have K0 := Keep.refl h0 []
  refine own_go (fun _ k => castTop (ef2 m i1) k) ?_
  show own_Fin p.tables e below _ (s₁.setTop (mkF m 0 #[.val (.int i1)] []))
  refine own_go (fun _ k => XS.iloadN X0.here hx rfl (hb hby d2_0) rfl k) ?_
  show own_Fin p.tables e below _ (s₁.setTop (mkF m 1 #[.val (.int i1)] [(.int i1)]))
  refine own_go (fun _ k => XT.bipushV X0.here hx rfl (10 : Int32) (hb hby d2_1) (by decide) k) ?_
  show own_Fin p.tables e below _ (s₁.setTop (mkF m 3 #[.val (.int i1)] [(.int (10 : Int32)), (.int i1)]))
  by_cases hc1 : (10 : Int32) < i1
  · refine own_go (fun _ k => XS.icmpNo X0.here hx rfl (hb hby d2_3) rfl (XT.ii_le_f hc1) k) ?_
    show own_Fin p.tables e below _ (s₁.setTop (mkF m 6 #[.val (.int i1)] []))
    obtain ⟨T2, X2, e2, st2⟩ := getS (host := "") X0 hx hZ hown (hw _ (List.mem_of_getElem? (i := 15) rfl)) Via.refl e0 SrS (g := (mkF m 6 #[.val (.int i1)] [])) rfl (hb hby d2_6)
    refine own_go st2 ?_
    show own_Fin p.tables e below _ (T2.setTop (mkF m 9 #[.val (.int i1)] [(.ref rS)]))
    refine own_retA X2 hx hlk hret rfl rfl (hb hby d2_9) ?_ (by decide) (by decide)
    exact ⟨by rw [show f2 rS rN rP i1 = rS from by simp only [f2, if_pos hc1]] <;> rfl, N0, e2⟩
  · refine own_go (fun _ k => XS.icmpYes X0.here hx rfl (pc0 := 3) (pc' := 10) rfl (hb hby d2_3) rfl (XT.ii_le_t hc1) (by decide) (by decide) k) ?_
    show own_Fin p.tables e below _ (s₁.setTop (mkF m 10 #[.val (.int i1)] []))
    refine own_go (fun _ k => XS.iloadN X0.here hx rfl (hb hby d2_10) rfl k) ?_
    show own_Fin p.tables e below _ (s₁.setTop (mkF m 11 #[.val (.int i1)] [(.int i1)]))
    refine own_go (fun _ k => XT.bipushV X0.here hx rfl (9 : Int32) (hb hby d2_11) (by decide) k) ?_
    show own_Fin p.tables e below _ (s₁.setTop (mkF m 13 #[.val (.int i1)] [(.int (9 : Int32)), (.int i1)]))
    by_cases hc3 : i1 = (9 : Int32)
    · refine own_go (fun _ k => XS.icmpYes X0.here hx rfl (pc0 := 13) (pc' := 22) rfl (hb hby d2_13) rfl (XT.ii_eq_t hc3) (by decide) (by decide) k) ?_
      show own_Fin p.tables e below _ (s₁.setTop (mkF m 22 #[.val (.int i1)] []))
      obtain ⟨T4, X4, e4, st4⟩ := getS (host := "") X0 hx hZ hown (hw _ (List.mem_of_getElem? (i := 17) rfl)) Via.refl e0 SrN (g := (mkF m 22 #[.val (.int i1)] [])) rfl (hb hby d2_22)
      refine own_go st4 ?_
      show own_Fin p.tables e below _ (T4.setTop (mkF m 25 #[.val (.int i1)] [(.ref rN)]))
      refine own_retA X4 hx hlk hret rfl rfl (hb hby d2_25) ?_ (by decide) (by decide)
      exact ⟨by rw [show f2 rS rN rP i1 = rN from by simp only [f2, if_neg hc1, if_pos hc3]] <;> rfl, N0, e4⟩
    · refine own_go (fun _ k => XS.icmpNo X0.here hx rfl (hb hby d2_13) rfl (XT.ii_eq_f hc3) k) ?_
      show own_Fin p.tables e below _ (s₁.setTop (mkF m 16 #[.val (.int i1)] []))
      refine own_go (fun _ k => XS.iloadN X0.here hx rfl (hb hby d2_16) rfl k) ?_
      show own_Fin p.tables e below _ (s₁.setTop (mkF m 17 #[.val (.int i1)] [(.int i1)]))
      refine own_go (fun _ k => XT.bipushV X0.here hx rfl (10 : Int32) (hb hby d2_17) (by decide) k) ?_
      show own_Fin p.tables e below _ (s₁.setTop (mkF m 19 #[.val (.int i1)] [(.int (10 : Int32)), (.int i1)]))
      by_cases hc5 : i1 = (10 : Int32)
      · refine own_go (fun _ k => XS.icmpNo X0.here hx rfl (hb hby d2_19) rfl (XT.ii_ne_f hc5) k) ?_
        show own_Fin p.tables e below _ (s₁.setTop (mkF m 22 #[.val (.int i1)] []))
        obtain ⟨T6, X6, e6, st6⟩ := getS (host := "") X0 hx hZ hown (hw _ (List.mem_of_getElem? (i := 17) rfl)) Via.refl e0 SrN (g := (mkF m 22 #[.val (.int i1)] [])) rfl (hb hby d2_22)
        refine own_go st6 ?_
        show own_Fin p.tables e below _ (T6.setTop (mkF m 25 #[.val (.int i1)] [(.ref rN)]))
        refine own_retA X6 hx hlk hret rfl rfl (hb hby d2_25) ?_ (by decide) (by decide)
        exact ⟨by rw [show f2 rS rN rP i1 = rN from by simp only [f2, if_neg hc1, if_neg hc3, if_pos hc5]] <;> rfl, N0, e6⟩
      · refine own_go (fun _ k => XS.icmpYes X0.here hx rfl (pc0 := 19) (pc' := 26) rfl (hb hby d2_19) rfl (XT.ii_ne_t hc5) (by decide) (by decide) k) ?_
        show own_Fin p.tables e below _ (s₁.setTop (mkF m 26 #[.val (.int i1)] []))
        obtain ⟨T7, X7, e7, st7⟩ := getS (host := "") X0 hx hZ hown (hw _ (List.mem_of_getElem? (i := 11) rfl)) Via.refl e0 SrP (g := (mkF m 26 #[.val (.int i1)] [])) rfl (hb hby d2_26)
        refine own_go st7 ?_
        show own_Fin p.tables e below _ (T7.setTop (mkF m 29 #[.val (.int i1)] [(.ref rP)]))
        refine own_retA X7 hx hlk hret rfl rfl (hb hby d2_29) ?_ (by decide) (by decide)
        exact ⟨by rw [show f2 rS rN rP i1 = rP from by simp only [f2, if_neg hc1, if_neg hc3, if_neg hc5]] <;> rfl, N0, e7⟩
theorem d3_0 : decode method_3_code 0 = .ok (.aload_n 0, 1) := by decide +kernel
theorem d3_1 : decode method_3_code 1 = .ok (.getstatic 7, 3) := by decide +kernel
theorem d3_4 : decode method_3_code 4 = .ok (.if_acmp .ne 5, 3) := by decide +kernel
theorem d3_7 : decode method_3_code 7 = .ok (.iconst 2, 1) := by decide +kernel
theorem d3_8 : decode method_3_code 8 = .ok (.ireturn, 1) := by decide +kernel
theorem d3_9 : decode method_3_code 9 = .ok (.aload_n 0, 1) := by decide +kernel
theorem d3_10 : decode method_3_code 10 = .ok (.getstatic 13, 3) := by decide +kernel
theorem d3_13 : decode method_3_code 13 = .ok (.if_acmp .ne 5, 3) := by decide +kernel
theorem d3_16 : decode method_3_code 16 = .ok (.iconst 1, 1) := by decide +kernel
theorem d3_17 : decode method_3_code 17 = .ok (.ireturn, 1) := by decide +kernel
theorem d3_18 : decode method_3_code 18 = .ok (.aload_n 0, 1) := by decide +kernel
theorem d3_19 : decode method_3_code 19 = .ok (.getstatic 16, 3) := by decide +kernel
theorem d3_22 : decode method_3_code 22 = .ok (.if_acmp .ne 5, 3) := by decide +kernel
theorem d3_25 : decode method_3_code 25 = .ok (.iconst 0, 1) := by decide +kernel
theorem d3_26 : decode method_3_code 26 = .ok (.ireturn, 1) := by decide +kernel
theorem d3_27 : decode method_3_code 27 = .ok (.iconst (-1), 1) := by decide +kernel
theorem d3_28 : decode method_3_code 28 = .ok (.ireturn, 1) := by decide +kernel
theorem pd1 : parseMethodDescriptor "(Lcom/example/tremorgrid/tremorgrid/analysis/Classifier$Verdict;)I" = some ⟨[(.object "com/example/tremorgrid/tremorgrid/analysis/Classifier$Verdict")], some .int⟩ := by decide +kernel
theorem ef3 (m : MethodId) (r0 : Addr) : entryFrame m #[(.ref r0)] 1 = mkF m 0 #[.val (.ref r0)] [] := by first | (simp [entryFrame, mkF, argsToLocals, Value.category]; done) | rfl
def f3 (rS : Addr) (rN : Addr) (rP : Addr) (r0 : Addr) : Int32 := (if r0 = rS then (2 : Int32) else (if r0 = rN then (1 : Int32) else (if r0 = rP then (0 : Int32) else (-1 : Int32))))
set_option maxRecDepth 65536 in
set_option maxHeartbeats 40000000 in
theorem rm3 (l : Launch) (Z : State) (a0 : Array Value) (hw : ∀ d ∈ tables_1, d.before a0 Z = true) (ws : List Jvm.Cond) (r0 : Addr) (h0 : Heap) (n0 : Nat) (Z0 : n0 ≤ h0.size) (rS : Addr) (rN : Addr) (rP : Addr) (SrS : Sta Z h0 "com/example/tremorgrid/tremorgrid/analysis/Classifier$Verdict" "STRICTLY" "Lcom/example/tremorgrid/tremorgrid/analysis/Classifier$Verdict;" (.ref rS)) (SrN : Sta Z h0 "com/example/tremorgrid/tremorgrid/analysis/Classifier$Verdict" "NOT_STRICTLY" "Lcom/example/tremorgrid/tremorgrid/analysis/Classifier$Verdict;" (.ref rN)) (SrP : Sta Z h0 "com/example/tremorgrid/tremorgrid/analysis/Classifier$Verdict" "PERHAPS" "Lcom/example/tremorgrid/tremorgrid/analysis/Classifier$Verdict;" (.ref rP)) :
    own_Met l (⟨"com/example/tremorgrid/tremorgrid/analysis/ClassifierVerdictOfPinLaw", "rank", "(Lcom/example/tremorgrid/tremorgrid/analysis/Classifier$Verdict;)I"⟩ : MethodName) method_3_code 1 (some .int) ({ frames := 0, cells := 0, slots := 0, locals := 0 } : Room) ws #[(.ref r0)] Z h0 0 0 (own_QP (some (.int (f3 rS rN rP r0))) h0 n0) := by
  refine own_met (plainFor_of_name pn1) ?_
  intro p e s m below meth c s₁ hx hby hml hown hnm hret hlk hZ e0 X0
  have hml : c.maxLocals = 1 := hml
  have N0 := Fr.nil n0
  have K0 := Keep.refl h0 []
  refine own_go (fun _ k => castTop (ef3 m r0) k) ?_
  show own_Fin p.tables e below _ (s₁.setTop (mkF m 0 #[.val (.ref r0)] []))
  refine own_go (fun _ k => XS.aloadN X0.here hx rfl (hb hby d3_0) rfl rfl k) ?_
  show own_Fin p.tables e below _ (s₁.setTop (mkF m 1 #[.val (.ref r0)] [(.ref r0)]))
  obtain ⟨T1, X1, e1, st1⟩ := getS (host := "") X0 hx hZ hown (hw _ (List.mem_of_getElem? (i := 15) rfl)) Via.refl e0 SrS (g := (mkF m 1 #[.val (.ref r0)] [(.ref r0)])) rfl (hb hby d3_1)
  refine own_go st1 ?_
  show own_Fin p.tables e below _ (T1.setTop (mkF m 4 #[.val (.ref r0)] [(.ref rS), (.ref r0)]))
  by_cases hc2 : r0 = rS
  · refine own_go (fun _ k => XT.acmpNo X1.here hx rfl (hb hby d3_4) rfl rfl rfl (XT.aa_ne_f (congrArg Value.ref hc2)) k) ?_
    show own_Fin p.tables e below _ (T1.setTop (mkF m 7 #[.val (.ref r0)] []))
    refine own_go (fun _ k => XT.iconstV X1.here hx rfl (2 : Int32) (hb hby d3_7) (by decide) k) ?_
    show own_Fin p.tables e below _ (T1.setTop (mkF m 8 #[.val (.ref r0)] [(.int (2 : Int32))]))
    refine own_retI X1 hx hlk hret (hb hby d3_8) ?_ (by decide) (by decide)
    exact ⟨by rw [show f3 rS rN rP r0 = (2 : Int32) from by simp only [f3, if_pos hc2]] <;> rfl, N0, e1⟩
  · refine own_go (fun _ k => XT.acmpYes X1.here hx rfl (pc0 := 4) (pc' := 9) rfl (hb hby d3_4) rfl rfl rfl (XT.aa_ne_t (fun q => hc2 (Value.ref.inj q))) (by decide) (by decide) k) ?_
    show own_Fin p.tables e below _ (T1.setTop (mkF m 9 #[.val (.ref r0)] []))
    refine own_go (fun _ k => XS.aloadN X1.here hx rfl (hb hby d3_9) rfl rfl k) ?_
    show own_Fin p.tables e below _ (T1.setTop (mkF m 10 #[.val (.ref r0)] [(.ref r0)]))
    obtain ⟨T3, X3, e3, st3⟩ := getS (host := "") X1 hx hZ hown (hw _ (List.mem_of_getElem? (i := 17) rfl)) Via.refl e1 SrN (g := (mkF m 10 #[.val (.ref r0)] [(.ref r0)])) rfl (hb hby d3_10)
    refine own_go st3 ?_
    show own_Fin p.tables e below _ (T3.setTop (mkF m 13 #[.val (.ref r0)] [(.ref rN), (.ref r0)]))
    by_cases hc4 : r0 = rN
    · refine own_go (fun _ k => XT.acmpNo X3.here hx rfl (hb hby d3_13) rfl rfl rfl (XT.aa_ne_f (congrArg Value.ref hc4)) k) ?_
      show own_Fin p.tables e below _ (T3.setTop (mkF m 16 #[.val (.ref r0)] []))
      refine own_go (fun _ k => XT.iconstV X3.here hx rfl (1 : Int32) (hb hby d3_16) (by decide) k) ?_
      show own_Fin p.tables e below _ (T3.setTop (mkF m 17 #[.val (.ref r0)] [(.int (1 : Int32))]))
      refine own_retI X3 hx hlk hret (hb hby d3_17) ?_ (by decide) (by decide)
      exact ⟨by rw [show f3 rS rN rP r0 = (1 : Int32) from by simp only [f3, if_neg hc2, if_pos hc4]] <;> rfl, N0, e3⟩
    · refine own_go (fun _ k => XT.acmpYes X3.here hx rfl (pc0 := 13) (pc' := 18) rfl (hb hby d3_13) rfl rfl rfl (XT.aa_ne_t (fun q => hc4 (Value.ref.inj q))) (by decide) (by decide) k) ?_
      show own_Fin p.tables e below _ (T3.setTop (mkF m 18 #[.val (.ref r0)] []))
      refine own_go (fun _ k => XS.aloadN X3.here hx rfl (hb hby d3_18) rfl rfl k) ?_
      show own_Fin p.tables e below _ (T3.setTop (mkF m 19 #[.val (.ref r0)] [(.ref r0)]))
      obtain ⟨T5, X5, e5, st5⟩ := getS (host := "") X3 hx hZ hown (hw _ (List.mem_of_getElem? (i := 11) rfl)) Via.refl e3 SrP (g := (mkF m 19 #[.val (.ref r0)] [(.ref r0)])) rfl (hb hby d3_19)
      refine own_go st5 ?_
      show own_Fin p.tables e below _ (T5.setTop (mkF m 22 #[.val (.ref r0)] [(.ref rP), (.ref r0)]))
      by_cases hc6 : r0 = rP
      · refine own_go (fun _ k => XT.acmpNo X5.here hx rfl (hb hby d3_22) rfl rfl rfl (XT.aa_ne_f (congrArg Value.ref hc6)) k) ?_
        show own_Fin p.tables e below _ (T5.setTop (mkF m 25 #[.val (.ref r0)] []))
        refine own_go (fun _ k => XT.iconstV X5.here hx rfl (0 : Int32) (hb hby d3_25) (by decide) k) ?_
        show own_Fin p.tables e below _ (T5.setTop (mkF m 26 #[.val (.ref r0)] [(.int (0 : Int32))]))
        refine own_retI X5 hx hlk hret (hb hby d3_26) ?_ (by decide) (by decide)
        exact ⟨by rw [show f3 rS rN rP r0 = (0 : Int32) from by simp only [f3, if_neg hc2, if_neg hc4, if_pos hc6]] <;> rfl, N0, e5⟩
      · refine own_go (fun _ k => XT.acmpYes X5.here hx rfl (pc0 := 22) (pc' := 27) rfl (hb hby d3_22) rfl rfl rfl (XT.aa_ne_t (fun q => hc6 (Value.ref.inj q))) (by decide) (by decide) k) ?_
        show own_Fin p.tables e below _ (T5.setTop (mkF m 27 #[.val (.ref r0)] []))
        refine own_go (fun _ k => XT.iconstV X5.here hx rfl (-1 : Int32) (hb hby d3_27) (by decide) k) ?_
        show own_Fin p.tables e below _ (T5.setTop (mkF m 28 #[.val (.ref r0)] [(.int (-1 : Int32))]))
        refine own_retI X5 hx hlk hret (hb hby d3_28) ?_ (by decide) (by decide)
        exact ⟨by rw [show f3 rS rN rP r0 = (-1 : Int32) from by simp only [f3, if_neg hc2, if_neg hc4, if_neg hc6]] <;> rfl, N0, e5⟩
theorem pd2 : parseMethodDescriptor "(III)Z" = some ⟨[.int, .int, .int], some .boolean⟩ := by decide +kernel
theorem ef0 (m : MethodId) (i1 : Int32) (i2 : Int32) (i3 : Int32) : entryFrame m #[(.int i1), (.int i2), (.int i3)] maxLocals = mkF m 0 #[.val (.int i1), .val (.int i2), .val (.int i3), .unset, .unset, .unset, .unset] [] := by first | (simp [entryFrame, mkF, argsToLocals, Value.category, maxLocals]; done) | rfl
def f0 (rS : Addr) (rN : Addr) (rP : Addr) (i1 : Int32) (i2 : Int32) (i3 : Int32) : Int32 := (if (f1 rS rN rP i1) = (f2 rS rN rP i1) then (if (f1 rS rN rP i2) = (f2 rS rN rP i2) then (if (f1 rS rN rP (i3 &&& (15 : Int32))) = (f2 rS rN rP (i3 &&& (15 : Int32))) then (if (f3 rS rN rP (f1 rS rN rP i1)) < (0 : Int32) then (0 : Int32) else (if (f3 rS rN rP (f1 rS rN rP i2)) < (0 : Int32) then (0 : Int32) else (if (f3 rS rN rP (f1 rS rN rP (i3 &&& (15 : Int32)))) < (0 : Int32) then (0 : Int32) else (if i2 < i1 then (if (f3 rS rN rP (f1 rS rN rP i1)) < (f3 rS rN rP (f1 rS rN rP i2)) then (0 : Int32) else (1 : Int32)) else (if (f3 rS rN rP (f1 rS rN rP i2)) < (f3 rS rN rP (f1 rS rN rP i1)) then (0 : Int32) else (1 : Int32)))))) else (0 : Int32)) else (0 : Int32)) else (0 : Int32))
theorem own_v (rS rN rP : Addr) (i : Int32) : f1 rS rN rP i = f2 rS rN rP i := by
  unfold f1 f2
  have e1 := @Int32.lt_iff_toInt_lt i 11
  have e2 := @Int32.lt_iff_toInt_lt 10 i
  have e3 := @Int32.lt_iff_toInt_lt i 9
  have e4 := @Int32.toInt_inj i 9
  have e5 := @Int32.toInt_inj i 10
  have k1 : (11 : Int32).toInt = 11 := rfl
  have k2 : (10 : Int32).toInt = 10 := rfl
  have k3 : (9 : Int32).toInt = 9 := rfl
  rw [k1] at e1; rw [k2] at e2 e5; rw [k3] at e3 e4
  simp only [e1, e2, e3, ← e4, ← e5]
  generalize i.toInt = n
  by_cases h1 : n < 9
  · simp [show n < 11 by omega, h1, show ¬ 10 < n by omega, show ¬ n = 9 by omega, show ¬ n = 10 by omega]
  · by_cases h2 : n < 11
    · by_cases h3 : n = 9
      · simp [h1, h2, h3]
      · simp [h1, h2, h3, show ¬ 10 < n by omega, show n = 10 by omega]
    · simp [h2, show 10 < n by omega]
theorem own_r (rS rN rP : Addr) (n1 : rN ≠ rS) (n2 : rP ≠ rS) (n3 : rP ≠ rN) (i : Int32) : f3 rS rN rP (f1 rS rN rP i) = if i.toInt < 9 then 0 else if i.toInt < 11 then 1 else 2 := by
  unfold f1
  have e1 := @Int32.lt_iff_toInt_lt i 11
  have e3 := @Int32.lt_iff_toInt_lt i 9
  have k1 : (11 : Int32).toInt = 11 := rfl
  have k3 : (9 : Int32).toInt = 9 := rfl
  rw [k1] at e1; rw [k3] at e3
  simp only [e1, e3]
  generalize i.toInt = n
  by_cases h1 : n < 9
  · rw [if_pos (show n < 11 by omega), if_pos h1, if_pos h1]
    unfold f3
    rw [if_neg n2, if_neg n3, if_pos rfl]
  · by_cases h2 : n < 11
    · rw [if_pos h2, if_neg h1, if_neg h1, if_pos h2]
      unfold f3
      rw [if_neg n1, if_pos rfl]
    · rw [if_neg h2, if_neg h1, if_neg h2]
      unfold f3
      rw [if_pos rfl]
theorem own_law (rS rN rP : Addr) (n1 : rN ≠ rS) (n2 : rP ≠ rS) (n3 : rP ≠ rN) (i1 i2 i3 : Int32) : f0 rS rN rP i1 i2 i3 = 1 := by
  unfold f0
  simp only [← own_v, if_true, own_r rS rN rP n1 n2 n3]
  have g : ∀ i : Int32, ¬ ((if i.toInt < 9 then 0 else if i.toInt < 11 then 1 else 2 : Int32) < 0) := by
    intro i
    split
    · decide
    · split <;> decide
  simp only [if_neg (g _)]
  have e1 := @Int32.lt_iff_toInt_lt i2 i1
  have q : ∀ x y : Int, x ≤ y → ¬ ((if y < 9 then 0 else if y < 11 then 1 else 2 : Int32) < (if x < 9 then 0 else if x < 11 then 1 else 2 : Int32)) := by
    intro x y hxy
    by_cases a1 : x < 9
    · by_cases b1 : y < 9
      · simp only [a1, b1, if_true]; decide
      · by_cases b2 : y < 11
        · simp only [a1, b1, b2, if_true, if_false]; decide
        · simp only [a1, b1, b2, if_true, if_false]; decide
    · have b1 : ¬ y < 9 := by omega
      by_cases a2 : x < 11
      · by_cases b2 : y < 11
        · simp only [a1, a2, b1, b2, if_true, if_false]; decide
        · simp only [a1, a2, b1, b2, if_true, if_false]; decide
      · have b2 : ¬ y < 11 := by omega
        simp only [a1, a2, b1, b2, if_false]; decide
  by_cases h : i2 < i1
  · rw [if_pos h, if_neg (q _ _ (by have := e1.mp h; omega))]
  · have h' : ¬ i2.toInt < i1.toInt := fun z => h (e1.mpr z)
    rw [if_neg h, if_neg (q _ _ (by omega))]
set_option maxRecDepth 65536 in
set_option maxHeartbeats 40000000 in
theorem rm0 (l : Launch) (Z : State) (a0 : Array Value) (hw : ∀ d ∈ tables_1, d.before a0 Z = true) (ws : List Jvm.Cond) (i1 : Int32) (i2 : Int32) (i3 : Int32) (h0 : Heap) (n0 : Nat) (Z0 : n0 ≤ h0.size) (rS : Addr) (rN : Addr) (rP : Addr) (SrS : Sta Z h0 "com/example/tremorgrid/tremorgrid/analysis/Classifier$Verdict" "STRICTLY" "Lcom/example/tremorgrid/tremorgrid/analysis/Classifier$Verdict;" (.ref rS)) (SrN : Sta Z h0 "com/example/tremorgrid/tremorgrid/analysis/Classifier$Verdict" "NOT_STRICTLY" "Lcom/example/tremorgrid/tremorgrid/analysis/Classifier$Verdict;" (.ref rN)) (SrP : Sta Z h0 "com/example/tremorgrid/tremorgrid/analysis/Classifier$Verdict" "PERHAPS" "Lcom/example/tremorgrid/tremorgrid/analysis/Classifier$Verdict;" (.ref rP)) :
    own_Met l x code maxLocals ret room_1 ws #[(.int i1), (.int i2), (.int i3)] Z h0 0 0 (fun v h L => v = some (.int (f0 rS rN rP i1 i2 i3)) ∧ Fr n0 L) := by
  refine own_met (plainFor_of_name pn1) ?_
  intro p e s m below meth c s₁ hx hby hml hown hnm hret hlk hZ e0 X0
  have hml : c.maxLocals = 7 := hml
  have N0 := Fr.nil n0
  have K0 := Keep.refl h0 []
  refine own_go (fun _ k => castTop (ef0 m i1 i2 i3) k) ?_
  show own_Fin p.tables e below _ (s₁.setTop (mkF m 0 #[.val (.int i1), .val (.int i2), .val (.int i3), .unset, .unset, .unset, .unset] []))
  refine own_go (fun _ k => XS.iloadN X0.here hx rfl (hb hby at_0) rfl k) ?_
  show own_Fin p.tables e below _ (s₁.setTop (mkF m 1 #[.val (.int i1), .val (.int i2), .val (.int i3), .unset, .unset, .unset, .unset] [(.int i3)]))
  refine own_go (fun _ k => XT.bipushV X0.here hx rfl (15 : Int32) (hb hby at_1) (by decide) k) ?_
  show own_Fin p.tables e below _ (s₁.setTop (mkF m 3 #[.val (.int i1), .val (.int i2), .val (.int i3), .unset, .unset, .unset, .unset] [(.int (15 : Int32)), (.int i3)]))
  refine own_go (fun _ k => XS.iand X0.here hx rfl (hb hby at_3) rfl k) ?_
  show own_Fin p.tables e below _ (s₁.setTop (mkF m 4 #[.val (.int i1), .val (.int i2), .val (.int i3), .unset, .unset, .unset, .unset] [(.int (i3 &&& (15 : Int32)))]))
  refine own_go (fun _ k => XS.istoreN X0.here hx rfl (hb hby at_4) rfl (l' := #[.val (.int i1), .val (.int i2), .val (.int i3), .val (.int (i3 &&& (15 : Int32))), .unset, .unset, .unset]) rfl k) ?_
  show own_Fin p.tables e below _ (s₁.setTop (mkF m 5 #[.val (.int i1), .val (.int i2), .val (.int i3), .val (.int (i3 &&& (15 : Int32))), .unset, .unset, .unset] []))
  refine own_go (fun _ k => XS.iloadN X0.here hx rfl (hb hby at_5) rfl k) ?_
  show own_Fin p.tables e below _ (s₁.setTop (mkF m 6 #[.val (.int i1), .val (.int i2), .val (.int i3), .val (.int (i3 &&& (15 : Int32))), .unset, .unset, .unset] [(.int i1)]))
  obtain ⟨_, T1, L1, X1, ⟨rfl, M1, e1⟩, st1⟩ := own_callS X0 hx hZ hown (hw _ (List.mem_of_getElem? (i := 0) rfl)) (hw _ (List.mem_of_getElem? (i := 1) rfl)) (hw _ (List.mem_of_getElem? (i := 2) rfl)) (hw _ (List.mem_of_getElem? (i := 3) rfl)) (by decide) (W := 0) (rm1 l Z a0 hw [] i1 h0 n0 (Nat.le_trans Z0 K0.1) rS rN rP SrS SrN SrP) (by decide) (by decide) e0 (g := (mkF m 6 #[.val (.int i1), .val (.int i2), .val (.int i3), .val (.int (i3 &&& (15 : Int32))), .unset, .unset, .unset] [(.int i1)])) rfl (by rw [hml]; rfl) (argsL := [(.int i1)]) (rest := []) rfl (lenOf pd0 rfl) rfl (by show 2 * 0 + _ ≤ _; exact Nat.le_of_eq rfl) (hb hby at_6) (by decide) (by decide)
  have N1 := Fr.app N0 M1
  refine own_go st1 ?_
  show own_Fin p.tables e below _ (T1.setTop (mkF m 9 #[.val (.int i1), .val (.int i2), .val (.int i3), .val (.int (i3 &&& (15 : Int32))), .unset, .unset, .unset] [(.ref (f1 rS rN rP i1))]))
  refine own_go (fun _ k => XS.astore X1.here hx rfl (hb hby at_9) rfl rfl (l' := #[.val (.int i1), .val (.int i2), .val (.int i3), .val (.int (i3 &&& (15 : Int32))), .val (.ref (f1 rS rN rP i1)), .unset, .unset]) rfl k) ?_
  show own_Fin p.tables e below _ (T1.setTop (mkF m 11 #[.val (.int i1), .val (.int i2), .val (.int i3), .val (.int (i3 &&& (15 : Int32))), .val (.ref (f1 rS rN rP i1)), .unset, .unset] []))
  refine own_go (fun _ k => XS.iloadN X1.here hx rfl (hb hby at_11) rfl k) ?_
  show own_Fin p.tables e below _ (T1.setTop (mkF m 12 #[.val (.int i1), .val (.int i2), .val (.int i3), .val (.int (i3 &&& (15 : Int32))), .val (.ref (f1 rS rN rP i1)), .unset, .unset] [(.int i2)]))
  obtain ⟨_, T2, L2, X2, ⟨rfl, M2, e2⟩, st2⟩ := own_callS X1 hx hZ hown (hw _ (List.mem_of_getElem? (i := 0) rfl)) (hw _ (List.mem_of_getElem? (i := 1) rfl)) (hw _ (List.mem_of_getElem? (i := 2) rfl)) (hw _ (List.mem_of_getElem? (i := 3) rfl)) (by decide) (W := 0) (rm1 l Z a0 hw [] i2 h0 n0 (Nat.le_trans Z0 K0.1) rS rN rP SrS SrN SrP) (by decide) (by decide) e1 (g := (mkF m 12 #[.val (.int i1), .val (.int i2), .val (.int i3), .val (.int (i3 &&& (15 : Int32))), .val (.ref (f1 rS rN rP i1)), .unset, .unset] [(.int i2)])) rfl (by rw [hml]; rfl) (argsL := [(.int i2)]) (rest := []) rfl (lenOf pd0 rfl) rfl (by show 2 * 0 + _ ≤ _; exact Nat.le_of_eq rfl) (hb hby at_12) (by decide) (by decide)
  have N2 := Fr.app N1 M2
  refine own_go st2 ?_
  show own_Fin p.tables e below _ (T2.setTop (mkF m 15 #[.val (.int i1), .val (.int i2), .val (.int i3), .val (.int (i3 &&& (15 : Int32))), .val (.ref (f1 rS rN rP i1)), .unset, .unset] [(.ref (f1 rS rN rP i2))]))
  refine own_go (fun _ k => XS.astore X2.here hx rfl (hb hby at_15) rfl rfl (l' := #[.val (.int i1), .val (.int i2), .val (.int i3), .val (.int (i3 &&& (15 : Int32))), .val (.ref (f1 rS rN rP i1)), .val (.ref (f1 rS rN rP i2)), .unset]) rfl k) ?_
  show own_Fin p.tables e below _ (T2.setTop (mkF m 17 #[.val (.int i1), .val (.int i2), .val (.int i3), .val (.int (i3 &&& (15 : Int32))), .val (.ref (f1 rS rN rP i1)), .val (.ref (f1 rS rN rP i2)), .unset] []))
  refine own_go (fun _ k => XS.iloadN X2.here hx rfl (hb hby at_17) rfl k) ?_
  show own_Fin p.tables e below _ (T2.setTop (mkF m 18 #[.val (.int i1), .val (.int i2), .val (.int i3), .val (.int (i3 &&& (15 : Int32))), .val (.ref (f1 rS rN rP i1)), .val (.ref (f1 rS rN rP i2)), .unset] [(.int (i3 &&& (15 : Int32)))]))
  obtain ⟨_, T3, L3, X3, ⟨rfl, M3, e3⟩, st3⟩ := own_callS X2 hx hZ hown (hw _ (List.mem_of_getElem? (i := 0) rfl)) (hw _ (List.mem_of_getElem? (i := 1) rfl)) (hw _ (List.mem_of_getElem? (i := 2) rfl)) (hw _ (List.mem_of_getElem? (i := 3) rfl)) (by decide) (W := 0) (rm1 l Z a0 hw [] (i3 &&& (15 : Int32)) h0 n0 (Nat.le_trans Z0 K0.1) rS rN rP SrS SrN SrP) (by decide) (by decide) e2 (g := (mkF m 18 #[.val (.int i1), .val (.int i2), .val (.int i3), .val (.int (i3 &&& (15 : Int32))), .val (.ref (f1 rS rN rP i1)), .val (.ref (f1 rS rN rP i2)), .unset] [(.int (i3 &&& (15 : Int32)))])) rfl (by rw [hml]; rfl) (argsL := [(.int (i3 &&& (15 : Int32)))]) (rest := []) rfl (lenOf pd0 rfl) rfl (by show 2 * 0 + _ ≤ _; exact Nat.le_of_eq rfl) (hb hby at_18) (by decide) (by decide)
  have N3 := Fr.app N2 M3
  refine own_go st3 ?_
  show own_Fin p.tables e below _ (T3.setTop (mkF m 21 #[.val (.int i1), .val (.int i2), .val (.int i3), .val (.int (i3 &&& (15 : Int32))), .val (.ref (f1 rS rN rP i1)), .val (.ref (f1 rS rN rP i2)), .unset] [(.ref (f1 rS rN rP (i3 &&& (15 : Int32))))]))
  refine own_go (fun _ k => XS.astore X3.here hx rfl (hb hby at_21) rfl rfl (l' := #[.val (.int i1), .val (.int i2), .val (.int i3), .val (.int (i3 &&& (15 : Int32))), .val (.ref (f1 rS rN rP i1)), .val (.ref (f1 rS rN rP i2)), .val (.ref (f1 rS rN rP (i3 &&& (15 : Int32))))]) rfl k) ?_
  show own_Fin p.tables e below _ (T3.setTop (mkF m 23 #[.val (.int i1), .val (.int i2), .val (.int i3), .val (.int (i3 &&& (15 : Int32))), .val (.ref (f1 rS rN rP i1)), .val (.ref (f1 rS rN rP i2)), .val (.ref (f1 rS rN rP (i3 &&& (15 : Int32))))] []))
  refine own_go (fun _ k => XS.aload X3.here hx rfl (hb hby at_23) rfl rfl k) ?_
  show own_Fin p.tables e below _ (T3.setTop (mkF m 25 #[.val (.int i1), .val (.int i2), .val (.int i3), .val (.int (i3 &&& (15 : Int32))), .val (.ref (f1 rS rN rP i1)), .val (.ref (f1 rS rN rP i2)), .val (.ref (f1 rS rN rP (i3 &&& (15 : Int32))))] [(.ref (f1 rS rN rP i1))]))
  refine own_go (fun _ k => XS.iloadN X3.here hx rfl (hb hby at_25) rfl k) ?_
  show own_Fin p.tables e below _ (T3.setTop (mkF m 26 #[.val (.int i1), .val (.int i2), .val (.int i3), .val (.int (i3 &&& (15 : Int32))), .val (.ref (f1 rS rN rP i1)), .val (.ref (f1 rS rN rP i2)), .val (.ref (f1 rS rN rP (i3 &&& (15 : Int32))))] [(.int i1), (.ref (f1 rS rN rP i1))]))
  obtain ⟨_, T4, L4, X4, ⟨rfl, M4, e4⟩, st4⟩ := own_callS X3 hx hZ hown (hw _ (List.mem_of_getElem? (i := 7) rfl)) (hw _ (List.mem_of_getElem? (i := 8) rfl)) (hw _ (List.mem_of_getElem? (i := 9) rfl)) (hw _ (List.mem_of_getElem? (i := 10) rfl)) (by decide) (W := 1) (rm2 l Z a0 hw [] i1 h0 n0 (Nat.le_trans Z0 K0.1) rS rN rP SrS SrN SrP) (by decide) (by decide) e3 (g := (mkF m 26 #[.val (.int i1), .val (.int i2), .val (.int i3), .val (.int (i3 &&& (15 : Int32))), .val (.ref (f1 rS rN rP i1)), .val (.ref (f1 rS rN rP i2)), .val (.ref (f1 rS rN rP (i3 &&& (15 : Int32))))] [(.int i1), (.ref (f1 rS rN rP i1))])) rfl (by rw [hml]; rfl) (argsL := [(.int i1)]) (rest := [(.ref (f1 rS rN rP i1))]) rfl (lenOf pd0 rfl) rfl (by show 2 * 0 + _ ≤ _; exact Nat.le_of_eq rfl) (hb hby at_26) (by decide) (by decide)
  have N4 := Fr.app N3 M4
  refine own_go st4 ?_
  show own_Fin p.tables e below _ (T4.setTop (mkF m 29 #[.val (.int i1), .val (.int i2), .val (.int i3), .val (.int (i3 &&& (15 : Int32))), .val (.ref (f1 rS rN rP i1)), .val (.ref (f1 rS rN rP i2)), .val (.ref (f1 rS rN rP (i3 &&& (15 : Int32))))] [(.ref (f2 rS rN rP i1)), (.ref (f1 rS rN rP i1))]))
  by_cases hc5 : (f1 rS rN rP i1) = (f2 rS rN rP i1)
  · refine own_go (fun _ k => XT.acmpNo X4.here hx rfl (hb hby at_29) rfl rfl rfl (XT.aa_ne_f (congrArg Value.ref hc5)) k) ?_
    show own_Fin p.tables e below _ (T4.setTop (mkF m 32 #[.val (.int i1), .val (.int i2), .val (.int i3), .val (.int (i3 &&& (15 : Int32))), .val (.ref (f1 rS rN rP i1)), .val (.ref (f1 rS rN rP i2)), .val (.ref (f1 rS rN rP (i3 &&& (15 : Int32))))] []))
    refine own_go (fun _ k => XS.aload X4.here hx rfl (hb hby at_32) rfl rfl k) ?_
    show own_Fin p.tables e below _ (T4.setTop (mkF m 34 #[.val (.int i1), .val (.int i2), .val (.int i3), .val (.int (i3 &&& (15 : Int32))), .val (.ref (f1 rS rN rP i1)), .val (.ref (f1 rS rN rP i2)), .val (.ref (f1 rS rN rP (i3 &&& (15 : Int32))))] [(.ref (f1 rS rN rP i2))]))
    refine own_go (fun _ k => XS.iloadN X4.here hx rfl (hb hby at_34) rfl k) ?_
    show own_Fin p.tables e below _ (T4.setTop (mkF m 35 #[.val (.int i1), .val (.int i2), .val (.int i3), .val (.int (i3 &&& (15 : Int32))), .val (.ref (f1 rS rN rP i1)), .val (.ref (f1 rS rN rP i2)), .val (.ref (f1 rS rN rP (i3 &&& (15 : Int32))))] [(.int i2), (.ref (f1 rS rN rP i2))]))
    obtain ⟨_, T6, L6, X6, ⟨rfl, M6, e6⟩, st6⟩ := own_callS X4 hx hZ hown (hw _ (List.mem_of_getElem? (i := 7) rfl)) (hw _ (List.mem_of_getElem? (i := 8) rfl)) (hw _ (List.mem_of_getElem? (i := 9) rfl)) (hw _ (List.mem_of_getElem? (i := 10) rfl)) (by decide) (W := 1) (rm2 l Z a0 hw [] i2 h0 n0 (Nat.le_trans Z0 K0.1) rS rN rP SrS SrN SrP) (by decide) (by decide) e4 (g := (mkF m 35 #[.val (.int i1), .val (.int i2), .val (.int i3), .val (.int (i3 &&& (15 : Int32))), .val (.ref (f1 rS rN rP i1)), .val (.ref (f1 rS rN rP i2)), .val (.ref (f1 rS rN rP (i3 &&& (15 : Int32))))] [(.int i2), (.ref (f1 rS rN rP i2))])) rfl (by rw [hml]; rfl) (argsL := [(.int i2)]) (rest := [(.ref (f1 rS rN rP i2))]) rfl (lenOf pd0 rfl) rfl (by show 2 * 0 + _ ≤ _; exact Nat.le_of_eq rfl) (hb hby at_35) (by decide) (by decide)
    have N6 := Fr.app N4 M6
    refine own_go st6 ?_
    show own_Fin p.tables e below _ (T6.setTop (mkF m 38 #[.val (.int i1), .val (.int i2), .val (.int i3), .val (.int (i3 &&& (15 : Int32))), .val (.ref (f1 rS rN rP i1)), .val (.ref (f1 rS rN rP i2)), .val (.ref (f1 rS rN rP (i3 &&& (15 : Int32))))] [(.ref (f2 rS rN rP i2)), (.ref (f1 rS rN rP i2))]))
    by_cases hc7 : (f1 rS rN rP i2) = (f2 rS rN rP i2)
    · refine own_go (fun _ k => XT.acmpNo X6.here hx rfl (hb hby at_38) rfl rfl rfl (XT.aa_ne_f (congrArg Value.ref hc7)) k) ?_
      show own_Fin p.tables e below _ (T6.setTop (mkF m 41 #[.val (.int i1), .val (.int i2), .val (.int i3), .val (.int (i3 &&& (15 : Int32))), .val (.ref (f1 rS rN rP i1)), .val (.ref (f1 rS rN rP i2)), .val (.ref (f1 rS rN rP (i3 &&& (15 : Int32))))] []))
      refine own_go (fun _ k => XS.aload X6.here hx rfl (hb hby at_41) rfl rfl k) ?_
      show own_Fin p.tables e below _ (T6.setTop (mkF m 43 #[.val (.int i1), .val (.int i2), .val (.int i3), .val (.int (i3 &&& (15 : Int32))), .val (.ref (f1 rS rN rP i1)), .val (.ref (f1 rS rN rP i2)), .val (.ref (f1 rS rN rP (i3 &&& (15 : Int32))))] [(.ref (f1 rS rN rP (i3 &&& (15 : Int32))))]))
      refine own_go (fun _ k => XS.iloadN X6.here hx rfl (hb hby at_43) rfl k) ?_
      show own_Fin p.tables e below _ (T6.setTop (mkF m 44 #[.val (.int i1), .val (.int i2), .val (.int i3), .val (.int (i3 &&& (15 : Int32))), .val (.ref (f1 rS rN rP i1)), .val (.ref (f1 rS rN rP i2)), .val (.ref (f1 rS rN rP (i3 &&& (15 : Int32))))] [(.int (i3 &&& (15 : Int32))), (.ref (f1 rS rN rP (i3 &&& (15 : Int32))))]))
      obtain ⟨_, T8, L8, X8, ⟨rfl, M8, e8⟩, st8⟩ := own_callS X6 hx hZ hown (hw _ (List.mem_of_getElem? (i := 7) rfl)) (hw _ (List.mem_of_getElem? (i := 8) rfl)) (hw _ (List.mem_of_getElem? (i := 9) rfl)) (hw _ (List.mem_of_getElem? (i := 10) rfl)) (by decide) (W := 1) (rm2 l Z a0 hw [] (i3 &&& (15 : Int32)) h0 n0 (Nat.le_trans Z0 K0.1) rS rN rP SrS SrN SrP) (by decide) (by decide) e6 (g := (mkF m 44 #[.val (.int i1), .val (.int i2), .val (.int i3), .val (.int (i3 &&& (15 : Int32))), .val (.ref (f1 rS rN rP i1)), .val (.ref (f1 rS rN rP i2)), .val (.ref (f1 rS rN rP (i3 &&& (15 : Int32))))] [(.int (i3 &&& (15 : Int32))), (.ref (f1 rS rN rP (i3 &&& (15 : Int32))))])) rfl (by rw [hml]; rfl) (argsL := [(.int (i3 &&& (15 : Int32)))]) (rest := [(.ref (f1 rS rN rP (i3 &&& (15 : Int32))))]) rfl (lenOf pd0 rfl) rfl (by show 2 * 0 + _ ≤ _; exact Nat.le_of_eq rfl) (hb hby at_44) (by decide) (by decide)
      have N8 := Fr.app N6 M8
      refine own_go st8 ?_
      show own_Fin p.tables e below _ (T8.setTop (mkF m 47 #[.val (.int i1), .val (.int i2), .val (.int i3), .val (.int (i3 &&& (15 : Int32))), .val (.ref (f1 rS rN rP i1)), .val (.ref (f1 rS rN rP i2)), .val (.ref (f1 rS rN rP (i3 &&& (15 : Int32))))] [(.ref (f2 rS rN rP (i3 &&& (15 : Int32)))), (.ref (f1 rS rN rP (i3 &&& (15 : Int32))))]))
      by_cases hc9 : (f1 rS rN rP (i3 &&& (15 : Int32))) = (f2 rS rN rP (i3 &&& (15 : Int32)))
      · refine own_go (fun _ k => XT.acmpYes X8.here hx rfl (pc0 := 47) (pc' := 52) rfl (hb hby at_47) rfl rfl rfl (XT.aa_eq_t (congrArg Value.ref hc9)) (by decide) (by decide) k) ?_
        show own_Fin p.tables e below _ (T8.setTop (mkF m 52 #[.val (.int i1), .val (.int i2), .val (.int i3), .val (.int (i3 &&& (15 : Int32))), .val (.ref (f1 rS rN rP i1)), .val (.ref (f1 rS rN rP i2)), .val (.ref (f1 rS rN rP (i3 &&& (15 : Int32))))] []))
        refine own_go (fun _ k => XS.aload X8.here hx rfl (hb hby at_52) rfl rfl k) ?_
        show own_Fin p.tables e below _ (T8.setTop (mkF m 54 #[.val (.int i1), .val (.int i2), .val (.int i3), .val (.int (i3 &&& (15 : Int32))), .val (.ref (f1 rS rN rP i1)), .val (.ref (f1 rS rN rP i2)), .val (.ref (f1 rS rN rP (i3 &&& (15 : Int32))))] [(.ref (f1 rS rN rP i1))]))
        obtain ⟨_, T10, L10, X10, ⟨rfl, M10, e10⟩, st10⟩ := own_callS X8 hx hZ hown (hw _ (List.mem_of_getElem? (i := 12) rfl)) (hw _ (List.mem_of_getElem? (i := 13) rfl)) (hw _ (List.mem_of_getElem? (i := 9) rfl)) (hw _ (List.mem_of_getElem? (i := 14) rfl)) (by decide) (W := 0) (rm3 l Z a0 hw [] (f1 rS rN rP i1) h0 n0 (Nat.le_trans Z0 K0.1) rS rN rP SrS SrN SrP) (by decide) (by decide) e8 (g := (mkF m 54 #[.val (.int i1), .val (.int i2), .val (.int i3), .val (.int (i3 &&& (15 : Int32))), .val (.ref (f1 rS rN rP i1)), .val (.ref (f1 rS rN rP i2)), .val (.ref (f1 rS rN rP (i3 &&& (15 : Int32))))] [(.ref (f1 rS rN rP i1))])) rfl (by rw [hml]; rfl) (argsL := [(.ref (f1 rS rN rP i1))]) (rest := []) rfl (lenOf pd1 rfl) rfl (by show 2 * 0 + _ ≤ _; exact Nat.le_of_eq rfl) (hb hby at_54) (by decide) (by decide)
        have N10 := Fr.app N8 M10
        refine own_go st10 ?_
        show own_Fin p.tables e below _ (T10.setTop (mkF m 57 #[.val (.int i1), .val (.int i2), .val (.int i3), .val (.int (i3 &&& (15 : Int32))), .val (.ref (f1 rS rN rP i1)), .val (.ref (f1 rS rN rP i2)), .val (.ref (f1 rS rN rP (i3 &&& (15 : Int32))))] [(.int (f3 rS rN rP (f1 rS rN rP i1)))]))
        by_cases hc11 : (f3 rS rN rP (f1 rS rN rP i1)) < (0 : Int32)
        · refine own_go (fun _ k => XS.ifYes X10.here hx rfl (pc0 := 57) (pc' := 76) rfl (hb hby at_57) rfl (XT.i0_lt_t hc11) (by decide) (by decide) k) ?_
          show own_Fin p.tables e below _ (T10.setTop (mkF m 76 #[.val (.int i1), .val (.int i2), .val (.int i3), .val (.int (i3 &&& (15 : Int32))), .val (.ref (f1 rS rN rP i1)), .val (.ref (f1 rS rN rP i2)), .val (.ref (f1 rS rN rP (i3 &&& (15 : Int32))))] []))
          refine own_go (fun _ k => XT.iconstV X10.here hx rfl (0 : Int32) (hb hby at_76) (by decide) k) ?_
          show own_Fin p.tables e below _ (T10.setTop (mkF m 77 #[.val (.int i1), .val (.int i2), .val (.int i3), .val (.int (i3 &&& (15 : Int32))), .val (.ref (f1 rS rN rP i1)), .val (.ref (f1 rS rN rP i2)), .val (.ref (f1 rS rN rP (i3 &&& (15 : Int32))))] [(.int (0 : Int32))]))
          refine own_retN X10 hx hlk (t := .boolean) hret (by simp) (hb hby at_77) ?_ (by decide) (by decide)
          exact ⟨by rw [show f0 rS rN rP i1 i2 i3 = (0 : Int32) from by simp only [f0, if_pos hc5, if_pos hc7, if_pos hc9, if_pos hc11]] <;> rfl, N10⟩
        · refine own_go (fun _ k => XS.ifNo X10.here hx rfl (hb hby at_57) rfl (XT.i0_lt_f hc11) k) ?_
          show own_Fin p.tables e below _ (T10.setTop (mkF m 60 #[.val (.int i1), .val (.int i2), .val (.int i3), .val (.int (i3 &&& (15 : Int32))), .val (.ref (f1 rS rN rP i1)), .val (.ref (f1 rS rN rP i2)), .val (.ref (f1 rS rN rP (i3 &&& (15 : Int32))))] []))
          refine own_go (fun _ k => XS.aload X10.here hx rfl (hb hby at_60) rfl rfl k) ?_
          show own_Fin p.tables e below _ (T10.setTop (mkF m 62 #[.val (.int i1), .val (.int i2), .val (.int i3), .val (.int (i3 &&& (15 : Int32))), .val (.ref (f1 rS rN rP i1)), .val (.ref (f1 rS rN rP i2)), .val (.ref (f1 rS rN rP (i3 &&& (15 : Int32))))] [(.ref (f1 rS rN rP i2))]))
          obtain ⟨_, T12, L12, X12, ⟨rfl, M12, e12⟩, st12⟩ := own_callS X10 hx hZ hown (hw _ (List.mem_of_getElem? (i := 12) rfl)) (hw _ (List.mem_of_getElem? (i := 13) rfl)) (hw _ (List.mem_of_getElem? (i := 9) rfl)) (hw _ (List.mem_of_getElem? (i := 14) rfl)) (by decide) (W := 0) (rm3 l Z a0 hw [] (f1 rS rN rP i2) h0 n0 (Nat.le_trans Z0 K0.1) rS rN rP SrS SrN SrP) (by decide) (by decide) e10 (g := (mkF m 62 #[.val (.int i1), .val (.int i2), .val (.int i3), .val (.int (i3 &&& (15 : Int32))), .val (.ref (f1 rS rN rP i1)), .val (.ref (f1 rS rN rP i2)), .val (.ref (f1 rS rN rP (i3 &&& (15 : Int32))))] [(.ref (f1 rS rN rP i2))])) rfl (by rw [hml]; rfl) (argsL := [(.ref (f1 rS rN rP i2))]) (rest := []) rfl (lenOf pd1 rfl) rfl (by show 2 * 0 + _ ≤ _; exact Nat.le_of_eq rfl) (hb hby at_62) (by decide) (by decide)
          have N12 := Fr.app N10 M12
          refine own_go st12 ?_
          show own_Fin p.tables e below _ (T12.setTop (mkF m 65 #[.val (.int i1), .val (.int i2), .val (.int i3), .val (.int (i3 &&& (15 : Int32))), .val (.ref (f1 rS rN rP i1)), .val (.ref (f1 rS rN rP i2)), .val (.ref (f1 rS rN rP (i3 &&& (15 : Int32))))] [(.int (f3 rS rN rP (f1 rS rN rP i2)))]))
          by_cases hc13 : (f3 rS rN rP (f1 rS rN rP i2)) < (0 : Int32)
          · refine own_go (fun _ k => XS.ifYes X12.here hx rfl (pc0 := 65) (pc' := 76) rfl (hb hby at_65) rfl (XT.i0_lt_t hc13) (by decide) (by decide) k) ?_
            show own_Fin p.tables e below _ (T12.setTop (mkF m 76 #[.val (.int i1), .val (.int i2), .val (.int i3), .val (.int (i3 &&& (15 : Int32))), .val (.ref (f1 rS rN rP i1)), .val (.ref (f1 rS rN rP i2)), .val (.ref (f1 rS rN rP (i3 &&& (15 : Int32))))] []))
            refine own_go (fun _ k => XT.iconstV X12.here hx rfl (0 : Int32) (hb hby at_76) (by decide) k) ?_
            show own_Fin p.tables e below _ (T12.setTop (mkF m 77 #[.val (.int i1), .val (.int i2), .val (.int i3), .val (.int (i3 &&& (15 : Int32))), .val (.ref (f1 rS rN rP i1)), .val (.ref (f1 rS rN rP i2)), .val (.ref (f1 rS rN rP (i3 &&& (15 : Int32))))] [(.int (0 : Int32))]))
            refine own_retN X12 hx hlk (t := .boolean) hret (by simp) (hb hby at_77) ?_ (by decide) (by decide)
            exact ⟨by rw [show f0 rS rN rP i1 i2 i3 = (0 : Int32) from by simp only [f0, if_pos hc5, if_pos hc7, if_pos hc9, if_neg hc11, if_pos hc13]] <;> rfl, N12⟩
          · refine own_go (fun _ k => XS.ifNo X12.here hx rfl (hb hby at_65) rfl (XT.i0_lt_f hc13) k) ?_
            show own_Fin p.tables e below _ (T12.setTop (mkF m 68 #[.val (.int i1), .val (.int i2), .val (.int i3), .val (.int (i3 &&& (15 : Int32))), .val (.ref (f1 rS rN rP i1)), .val (.ref (f1 rS rN rP i2)), .val (.ref (f1 rS rN rP (i3 &&& (15 : Int32))))] []))
            refine own_go (fun _ k => XS.aload X12.here hx rfl (hb hby at_68) rfl rfl k) ?_
            show own_Fin p.tables e below _ (T12.setTop (mkF m 70 #[.val (.int i1), .val (.int i2), .val (.int i3), .val (.int (i3 &&& (15 : Int32))), .val (.ref (f1 rS rN rP i1)), .val (.ref (f1 rS rN rP i2)), .val (.ref (f1 rS rN rP (i3 &&& (15 : Int32))))] [(.ref (f1 rS rN rP (i3 &&& (15 : Int32))))]))
            obtain ⟨_, T14, L14, X14, ⟨rfl, M14, e14⟩, st14⟩ := own_callS X12 hx hZ hown (hw _ (List.mem_of_getElem? (i := 12) rfl)) (hw _ (List.mem_of_getElem? (i := 13) rfl)) (hw _ (List.mem_of_getElem? (i := 9) rfl)) (hw _ (List.mem_of_getElem? (i := 14) rfl)) (by decide) (W := 0) (rm3 l Z a0 hw [] (f1 rS rN rP (i3 &&& (15 : Int32))) h0 n0 (Nat.le_trans Z0 K0.1) rS rN rP SrS SrN SrP) (by decide) (by decide) e12 (g := (mkF m 70 #[.val (.int i1), .val (.int i2), .val (.int i3), .val (.int (i3 &&& (15 : Int32))), .val (.ref (f1 rS rN rP i1)), .val (.ref (f1 rS rN rP i2)), .val (.ref (f1 rS rN rP (i3 &&& (15 : Int32))))] [(.ref (f1 rS rN rP (i3 &&& (15 : Int32))))])) rfl (by rw [hml]; rfl) (argsL := [(.ref (f1 rS rN rP (i3 &&& (15 : Int32))))]) (rest := []) rfl (lenOf pd1 rfl) rfl (by show 2 * 0 + _ ≤ _; exact Nat.le_of_eq rfl) (hb hby at_70) (by decide) (by decide)
            have N14 := Fr.app N12 M14
            refine own_go st14 ?_
            show own_Fin p.tables e below _ (T14.setTop (mkF m 73 #[.val (.int i1), .val (.int i2), .val (.int i3), .val (.int (i3 &&& (15 : Int32))), .val (.ref (f1 rS rN rP i1)), .val (.ref (f1 rS rN rP i2)), .val (.ref (f1 rS rN rP (i3 &&& (15 : Int32))))] [(.int (f3 rS rN rP (f1 rS rN rP (i3 &&& (15 : Int32)))))]))
            by_cases hc15 : (f3 rS rN rP (f1 rS rN rP (i3 &&& (15 : Int32)))) < (0 : Int32)
            · refine own_go (fun _ k => XS.ifNo X14.here hx rfl (hb hby at_73) rfl (XT.i0_ge_f hc15) k) ?_
              show own_Fin p.tables e below _ (T14.setTop (mkF m 76 #[.val (.int i1), .val (.int i2), .val (.int i3), .val (.int (i3 &&& (15 : Int32))), .val (.ref (f1 rS rN rP i1)), .val (.ref (f1 rS rN rP i2)), .val (.ref (f1 rS rN rP (i3 &&& (15 : Int32))))] []))
              refine own_go (fun _ k => XT.iconstV X14.here hx rfl (0 : Int32) (hb hby at_76) (by decide) k) ?_
              show own_Fin p.tables e below _ (T14.setTop (mkF m 77 #[.val (.int i1), .val (.int i2), .val (.int i3), .val (.int (i3 &&& (15 : Int32))), .val (.ref (f1 rS rN rP i1)), .val (.ref (f1 rS rN rP i2)), .val (.ref (f1 rS rN rP (i3 &&& (15 : Int32))))] [(.int (0 : Int32))]))
              refine own_retN X14 hx hlk (t := .boolean) hret (by simp) (hb hby at_77) ?_ (by decide) (by decide)
              exact ⟨by rw [show f0 rS rN rP i1 i2 i3 = (0 : Int32) from by simp only [f0, if_pos hc5, if_pos hc7, if_pos hc9, if_neg hc11, if_neg hc13, if_pos hc15]] <;> rfl, N14⟩
            · refine own_go (fun _ k => XS.ifYes X14.here hx rfl (pc0 := 73) (pc' := 78) rfl (hb hby at_73) rfl (XT.i0_ge_t hc15) (by decide) (by decide) k) ?_
              show own_Fin p.tables e below _ (T14.setTop (mkF m 78 #[.val (.int i1), .val (.int i2), .val (.int i3), .val (.int (i3 &&& (15 : Int32))), .val (.ref (f1 rS rN rP i1)), .val (.ref (f1 rS rN rP i2)), .val (.ref (f1 rS rN rP (i3 &&& (15 : Int32))))] []))
              refine own_go (fun _ k => XS.iloadN X14.here hx rfl (hb hby at_78) rfl k) ?_
              show own_Fin p.tables e below _ (T14.setTop (mkF m 79 #[.val (.int i1), .val (.int i2), .val (.int i3), .val (.int (i3 &&& (15 : Int32))), .val (.ref (f1 rS rN rP i1)), .val (.ref (f1 rS rN rP i2)), .val (.ref (f1 rS rN rP (i3 &&& (15 : Int32))))] [(.int i1)]))
              refine own_go (fun _ k => XS.iloadN X14.here hx rfl (hb hby at_79) rfl k) ?_
              show own_Fin p.tables e below _ (T14.setTop (mkF m 80 #[.val (.int i1), .val (.int i2), .val (.int i3), .val (.int (i3 &&& (15 : Int32))), .val (.ref (f1 rS rN rP i1)), .val (.ref (f1 rS rN rP i2)), .val (.ref (f1 rS rN rP (i3 &&& (15 : Int32))))] [(.int i2), (.int i1)]))
              by_cases hc16 : i2 < i1
              · refine own_go (fun _ k => XS.icmpYes X14.here hx rfl (pc0 := 80) (pc' := 102) rfl (hb hby at_80) rfl (XT.ii_gt_t hc16) (by decide) (by decide) k) ?_
                show own_Fin p.tables e below _ (T14.setTop (mkF m 102 #[.val (.int i1), .val (.int i2), .val (.int i3), .val (.int (i3 &&& (15 : Int32))), .val (.ref (f1 rS rN rP i1)), .val (.ref (f1 rS rN rP i2)), .val (.ref (f1 rS rN rP (i3 &&& (15 : Int32))))] []))
                refine own_go (fun _ k => XS.aload X14.here hx rfl (hb hby at_102) rfl rfl k) ?_
                show own_Fin p.tables e below _ (T14.setTop (mkF m 104 #[.val (.int i1), .val (.int i2), .val (.int i3), .val (.int (i3 &&& (15 : Int32))), .val (.ref (f1 rS rN rP i1)), .val (.ref (f1 rS rN rP i2)), .val (.ref (f1 rS rN rP (i3 &&& (15 : Int32))))] [(.ref (f1 rS rN rP i2))]))
                obtain ⟨_, T17, L17, X17, ⟨rfl, M17, e17⟩, st17⟩ := own_callS X14 hx hZ hown (hw _ (List.mem_of_getElem? (i := 12) rfl)) (hw _ (List.mem_of_getElem? (i := 13) rfl)) (hw _ (List.mem_of_getElem? (i := 9) rfl)) (hw _ (List.mem_of_getElem? (i := 14) rfl)) (by decide) (W := 0) (rm3 l Z a0 hw [] (f1 rS rN rP i2) h0 n0 (Nat.le_trans Z0 K0.1) rS rN rP SrS SrN SrP) (by decide) (by decide) e14 (g := (mkF m 104 #[.val (.int i1), .val (.int i2), .val (.int i3), .val (.int (i3 &&& (15 : Int32))), .val (.ref (f1 rS rN rP i1)), .val (.ref (f1 rS rN rP i2)), .val (.ref (f1 rS rN rP (i3 &&& (15 : Int32))))] [(.ref (f1 rS rN rP i2))])) rfl (by rw [hml]; rfl) (argsL := [(.ref (f1 rS rN rP i2))]) (rest := []) rfl (lenOf pd1 rfl) rfl (by show 2 * 0 + _ ≤ _; exact Nat.le_of_eq rfl) (hb hby at_104) (by decide) (by decide)
                have N17 := Fr.app N14 M17
                refine own_go st17 ?_
                show own_Fin p.tables e below _ (T17.setTop (mkF m 107 #[.val (.int i1), .val (.int i2), .val (.int i3), .val (.int (i3 &&& (15 : Int32))), .val (.ref (f1 rS rN rP i1)), .val (.ref (f1 rS rN rP i2)), .val (.ref (f1 rS rN rP (i3 &&& (15 : Int32))))] [(.int (f3 rS rN rP (f1 rS rN rP i2)))]))
                refine own_go (fun _ k => XS.aload X17.here hx rfl (hb hby at_107) rfl rfl k) ?_
                show own_Fin p.tables e below _ (T17.setTop (mkF m 109 #[.val (.int i1), .val (.int i2), .val (.int i3), .val (.int (i3 &&& (15 : Int32))), .val (.ref (f1 rS rN rP i1)), .val (.ref (f1 rS rN rP i2)), .val (.ref (f1 rS rN rP (i3 &&& (15 : Int32))))] [(.ref (f1 rS rN rP i1)), (.int (f3 rS rN rP (f1 rS rN rP i2)))]))
                obtain ⟨_, T18, L18, X18, ⟨rfl, M18, e18⟩, st18⟩ := own_callS X17 hx hZ hown (hw _ (List.mem_of_getElem? (i := 12) rfl)) (hw _ (List.mem_of_getElem? (i := 13) rfl)) (hw _ (List.mem_of_getElem? (i := 9) rfl)) (hw _ (List.mem_of_getElem? (i := 14) rfl)) (by decide) (W := 1) (rm3 l Z a0 hw [] (f1 rS rN rP i1) h0 n0 (Nat.le_trans Z0 K0.1) rS rN rP SrS SrN SrP) (by decide) (by decide) e17 (g := (mkF m 109 #[.val (.int i1), .val (.int i2), .val (.int i3), .val (.int (i3 &&& (15 : Int32))), .val (.ref (f1 rS rN rP i1)), .val (.ref (f1 rS rN rP i2)), .val (.ref (f1 rS rN rP (i3 &&& (15 : Int32))))] [(.ref (f1 rS rN rP i1)), (.int (f3 rS rN rP (f1 rS rN rP i2)))])) rfl (by rw [hml]; rfl) (argsL := [(.ref (f1 rS rN rP i1))]) (rest := [(.int (f3 rS rN rP (f1 rS rN rP i2)))]) rfl (lenOf pd1 rfl) rfl (by show 2 * 0 + _ ≤ _; exact Nat.le_of_eq rfl) (hb hby at_109) (by decide) (by decide)
                have N18 := Fr.app N17 M18
                refine own_go st18 ?_
                show own_Fin p.tables e below _ (T18.setTop (mkF m 112 #[.val (.int i1), .val (.int i2), .val (.int i3), .val (.int (i3 &&& (15 : Int32))), .val (.ref (f1 rS rN rP i1)), .val (.ref (f1 rS rN rP i2)), .val (.ref (f1 rS rN rP (i3 &&& (15 : Int32))))] [(.int (f3 rS rN rP (f1 rS rN rP i1))), (.int (f3 rS rN rP (f1 rS rN rP i2)))]))
                by_cases hc19 : (f3 rS rN rP (f1 rS rN rP i1)) < (f3 rS rN rP (f1 rS rN rP i2))
                · refine own_go (fun _ k => XS.icmpYes X18.here hx rfl (pc0 := 112) (pc' := 119) rfl (hb hby at_112) rfl (XT.ii_gt_t hc19) (by decide) (by decide) k) ?_
                  show own_Fin p.tables e below _ (T18.setTop (mkF m 119 #[.val (.int i1), .val (.int i2), .val (.int i3), .val (.int (i3 &&& (15 : Int32))), .val (.ref (f1 rS rN rP i1)), .val (.ref (f1 rS rN rP i2)), .val (.ref (f1 rS rN rP (i3 &&& (15 : Int32))))] []))
                  refine own_go (fun _ k => XT.iconstV X18.here hx rfl (0 : Int32) (hb hby at_119) (by decide) k) ?_
                  show own_Fin p.tables e below _ (T18.setTop (mkF m 120 #[.val (.int i1), .val (.int i2), .val (.int i3), .val (.int (i3 &&& (15 : Int32))), .val (.ref (f1 rS rN rP i1)), .val (.ref (f1 rS rN rP i2)), .val (.ref (f1 rS rN rP (i3 &&& (15 : Int32))))] [(.int (0 : Int32))]))
                  refine own_retN X18 hx hlk (t := .boolean) hret (by simp) (hb hby at_120) ?_ (by decide) (by decide)
                  exact ⟨by rw [show f0 rS rN rP i1 i2 i3 = (0 : Int32) from by simp only [f0, if_pos hc5, if_pos hc7, if_pos hc9, if_neg hc11, if_neg hc13, if_neg hc15, if_pos hc16, if_pos hc19]] <;> rfl, N18⟩
                · refine own_go (fun _ k => XS.icmpNo X18.here hx rfl (hb hby at_112) rfl (XT.ii_gt_f hc19) k) ?_
                  show own_Fin p.tables e below _ (T18.setTop (mkF m 115 #[.val (.int i1), .val (.int i2), .val (.int i3), .val (.int (i3 &&& (15 : Int32))), .val (.ref (f1 rS rN rP i1)), .val (.ref (f1 rS rN rP i2)), .val (.ref (f1 rS rN rP (i3 &&& (15 : Int32))))] []))
                  refine own_go (fun _ k => XT.iconstV X18.here hx rfl (1 : Int32) (hb hby at_115) (by decide) k) ?_
                  show own_Fin p.tables e below _ (T18.setTop (mkF m 116 #[.val (.int i1), .val (.int i2), .val (.int i3), .val (.int (i3 &&& (15 : Int32))), .val (.ref (f1 rS rN rP i1)), .val (.ref (f1 rS rN rP i2)), .val (.ref (f1 rS rN rP (i3 &&& (15 : Int32))))] [(.int (1 : Int32))]))
                  refine own_go (fun _ k => XS.goto X18.here hx rfl (pc0 := 116) (pc' := 120) rfl (hb hby at_116) (by decide) (by decide) k) ?_
                  show own_Fin p.tables e below _ (T18.setTop (mkF m 120 #[.val (.int i1), .val (.int i2), .val (.int i3), .val (.int (i3 &&& (15 : Int32))), .val (.ref (f1 rS rN rP i1)), .val (.ref (f1 rS rN rP i2)), .val (.ref (f1 rS rN rP (i3 &&& (15 : Int32))))] [(.int (1 : Int32))]))
                  refine own_retN X18 hx hlk (t := .boolean) hret (by simp) (hb hby at_120) ?_ (by decide) (by decide)
                  exact ⟨by rw [show f0 rS rN rP i1 i2 i3 = (1 : Int32) from by simp only [f0, if_pos hc5, if_pos hc7, if_pos hc9, if_neg hc11, if_neg hc13, if_neg hc15, if_pos hc16, if_neg hc19]] <;> rfl, N18⟩
              · refine own_go (fun _ k => XS.icmpNo X14.here hx rfl (hb hby at_80) rfl (XT.ii_gt_f hc16) k) ?_
                show own_Fin p.tables e below _ (T14.setTop (mkF m 83 #[.val (.int i1), .val (.int i2), .val (.int i3), .val (.int (i3 &&& (15 : Int32))), .val (.ref (f1 rS rN rP i1)), .val (.ref (f1 rS rN rP i2)), .val (.ref (f1 rS rN rP (i3 &&& (15 : Int32))))] []))
                refine own_go (fun _ k => XS.aload X14.here hx rfl (hb hby at_83) rfl rfl k) ?_
                show own_Fin p.tables e below _ (T14.setTop (mkF m 85 #[.val (.int i1), .val (.int i2), .val (.int i3), .val (.int (i3 &&& (15 : Int32))), .val (.ref (f1 rS rN rP i1)), .val (.ref (f1 rS rN rP i2)), .val (.ref (f1 rS rN rP (i3 &&& (15 : Int32))))] [(.ref (f1 rS rN rP i1))]))
                obtain ⟨_, T20, L20, X20, ⟨rfl, M20, e20⟩, st20⟩ := own_callS X14 hx hZ hown (hw _ (List.mem_of_getElem? (i := 12) rfl)) (hw _ (List.mem_of_getElem? (i := 13) rfl)) (hw _ (List.mem_of_getElem? (i := 9) rfl)) (hw _ (List.mem_of_getElem? (i := 14) rfl)) (by decide) (W := 0) (rm3 l Z a0 hw [] (f1 rS rN rP i1) h0 n0 (Nat.le_trans Z0 K0.1) rS rN rP SrS SrN SrP) (by decide) (by decide) e14 (g := (mkF m 85 #[.val (.int i1), .val (.int i2), .val (.int i3), .val (.int (i3 &&& (15 : Int32))), .val (.ref (f1 rS rN rP i1)), .val (.ref (f1 rS rN rP i2)), .val (.ref (f1 rS rN rP (i3 &&& (15 : Int32))))] [(.ref (f1 rS rN rP i1))])) rfl (by rw [hml]; rfl) (argsL := [(.ref (f1 rS rN rP i1))]) (rest := []) rfl (lenOf pd1 rfl) rfl (by show 2 * 0 + _ ≤ _; exact Nat.le_of_eq rfl) (hb hby at_85) (by decide) (by decide)
                have N20 := Fr.app N14 M20
                refine own_go st20 ?_
                show own_Fin p.tables e below _ (T20.setTop (mkF m 88 #[.val (.int i1), .val (.int i2), .val (.int i3), .val (.int (i3 &&& (15 : Int32))), .val (.ref (f1 rS rN rP i1)), .val (.ref (f1 rS rN rP i2)), .val (.ref (f1 rS rN rP (i3 &&& (15 : Int32))))] [(.int (f3 rS rN rP (f1 rS rN rP i1)))]))
                refine own_go (fun _ k => XS.aload X20.here hx rfl (hb hby at_88) rfl rfl k) ?_
                show own_Fin p.tables e below _ (T20.setTop (mkF m 90 #[.val (.int i1), .val (.int i2), .val (.int i3), .val (.int (i3 &&& (15 : Int32))), .val (.ref (f1 rS rN rP i1)), .val (.ref (f1 rS rN rP i2)), .val (.ref (f1 rS rN rP (i3 &&& (15 : Int32))))] [(.ref (f1 rS rN rP i2)), (.int (f3 rS rN rP (f1 rS rN rP i1)))]))
                obtain ⟨_, T21, L21, X21, ⟨rfl, M21, e21⟩, st21⟩ := own_callS X20 hx hZ hown (hw _ (List.mem_of_getElem? (i := 12) rfl)) (hw _ (List.mem_of_getElem? (i := 13) rfl)) (hw _ (List.mem_of_getElem? (i := 9) rfl)) (hw _ (List.mem_of_getElem? (i := 14) rfl)) (by decide) (W := 1) (rm3 l Z a0 hw [] (f1 rS rN rP i2) h0 n0 (Nat.le_trans Z0 K0.1) rS rN rP SrS SrN SrP) (by decide) (by decide) e20 (g := (mkF m 90 #[.val (.int i1), .val (.int i2), .val (.int i3), .val (.int (i3 &&& (15 : Int32))), .val (.ref (f1 rS rN rP i1)), .val (.ref (f1 rS rN rP i2)), .val (.ref (f1 rS rN rP (i3 &&& (15 : Int32))))] [(.ref (f1 rS rN rP i2)), (.int (f3 rS rN rP (f1 rS rN rP i1)))])) rfl (by rw [hml]; rfl) (argsL := [(.ref (f1 rS rN rP i2))]) (rest := [(.int (f3 rS rN rP (f1 rS rN rP i1)))]) rfl (lenOf pd1 rfl) rfl (by show 2 * 0 + _ ≤ _; exact Nat.le_of_eq rfl) (hb hby at_90) (by decide) (by decide)
                have N21 := Fr.app N20 M21
                refine own_go st21 ?_
                show own_Fin p.tables e below _ (T21.setTop (mkF m 93 #[.val (.int i1), .val (.int i2), .val (.int i3), .val (.int (i3 &&& (15 : Int32))), .val (.ref (f1 rS rN rP i1)), .val (.ref (f1 rS rN rP i2)), .val (.ref (f1 rS rN rP (i3 &&& (15 : Int32))))] [(.int (f3 rS rN rP (f1 rS rN rP i2))), (.int (f3 rS rN rP (f1 rS rN rP i1)))]))
                by_cases hc22 : (f3 rS rN rP (f1 rS rN rP i2)) < (f3 rS rN rP (f1 rS rN rP i1))
                · refine own_go (fun _ k => XS.icmpYes X21.here hx rfl (pc0 := 93) (pc' := 100) rfl (hb hby at_93) rfl (XT.ii_gt_t hc22) (by decide) (by decide) k) ?_
                  show own_Fin p.tables e below _ (T21.setTop (mkF m 100 #[.val (.int i1), .val (.int i2), .val (.int i3), .val (.int (i3 &&& (15 : Int32))), .val (.ref (f1 rS rN rP i1)), .val (.ref (f1 rS rN rP i2)), .val (.ref (f1 rS rN rP (i3 &&& (15 : Int32))))] []))
                  refine own_go (fun _ k => XT.iconstV X21.here hx rfl (0 : Int32) (hb hby at_100) (by decide) k) ?_
                  show own_Fin p.tables e below _ (T21.setTop (mkF m 101 #[.val (.int i1), .val (.int i2), .val (.int i3), .val (.int (i3 &&& (15 : Int32))), .val (.ref (f1 rS rN rP i1)), .val (.ref (f1 rS rN rP i2)), .val (.ref (f1 rS rN rP (i3 &&& (15 : Int32))))] [(.int (0 : Int32))]))
                  refine own_retN X21 hx hlk (t := .boolean) hret (by simp) (hb hby at_101) ?_ (by decide) (by decide)
                  exact ⟨by rw [show f0 rS rN rP i1 i2 i3 = (0 : Int32) from by simp only [f0, if_pos hc5, if_pos hc7, if_pos hc9, if_neg hc11, if_neg hc13, if_neg hc15, if_neg hc16, if_pos hc22]] <;> rfl, N21⟩
                · refine own_go (fun _ k => XS.icmpNo X21.here hx rfl (hb hby at_93) rfl (XT.ii_gt_f hc22) k) ?_
                  show own_Fin p.tables e below _ (T21.setTop (mkF m 96 #[.val (.int i1), .val (.int i2), .val (.int i3), .val (.int (i3 &&& (15 : Int32))), .val (.ref (f1 rS rN rP i1)), .val (.ref (f1 rS rN rP i2)), .val (.ref (f1 rS rN rP (i3 &&& (15 : Int32))))] []))
                  refine own_go (fun _ k => XT.iconstV X21.here hx rfl (1 : Int32) (hb hby at_96) (by decide) k) ?_
                  show own_Fin p.tables e below _ (T21.setTop (mkF m 97 #[.val (.int i1), .val (.int i2), .val (.int i3), .val (.int (i3 &&& (15 : Int32))), .val (.ref (f1 rS rN rP i1)), .val (.ref (f1 rS rN rP i2)), .val (.ref (f1 rS rN rP (i3 &&& (15 : Int32))))] [(.int (1 : Int32))]))
                  refine own_go (fun _ k => XS.goto X21.here hx rfl (pc0 := 97) (pc' := 101) rfl (hb hby at_97) (by decide) (by decide) k) ?_
                  show own_Fin p.tables e below _ (T21.setTop (mkF m 101 #[.val (.int i1), .val (.int i2), .val (.int i3), .val (.int (i3 &&& (15 : Int32))), .val (.ref (f1 rS rN rP i1)), .val (.ref (f1 rS rN rP i2)), .val (.ref (f1 rS rN rP (i3 &&& (15 : Int32))))] [(.int (1 : Int32))]))
                  refine own_retN X21 hx hlk (t := .boolean) hret (by simp) (hb hby at_101) ?_ (by decide) (by decide)
                  exact ⟨by rw [show f0 rS rN rP i1 i2 i3 = (1 : Int32) from by simp only [f0, if_pos hc5, if_pos hc7, if_pos hc9, if_neg hc11, if_neg hc13, if_neg hc15, if_neg hc16, if_neg hc22]] <;> rfl, N21⟩
      · refine own_go (fun _ k => XT.acmpNo X8.here hx rfl (hb hby at_47) rfl rfl rfl (XT.aa_eq_f (fun q => hc9 (Value.ref.inj q))) k) ?_
        show own_Fin p.tables e below _ (T8.setTop (mkF m 50 #[.val (.int i1), .val (.int i2), .val (.int i3), .val (.int (i3 &&& (15 : Int32))), .val (.ref (f1 rS rN rP i1)), .val (.ref (f1 rS rN rP i2)), .val (.ref (f1 rS rN rP (i3 &&& (15 : Int32))))] []))
        refine own_go (fun _ k => XT.iconstV X8.here hx rfl (0 : Int32) (hb hby at_50) (by decide) k) ?_
        show own_Fin p.tables e below _ (T8.setTop (mkF m 51 #[.val (.int i1), .val (.int i2), .val (.int i3), .val (.int (i3 &&& (15 : Int32))), .val (.ref (f1 rS rN rP i1)), .val (.ref (f1 rS rN rP i2)), .val (.ref (f1 rS rN rP (i3 &&& (15 : Int32))))] [(.int (0 : Int32))]))
        refine own_retN X8 hx hlk (t := .boolean) hret (by simp) (hb hby at_51) ?_ (by decide) (by decide)
        exact ⟨by rw [show f0 rS rN rP i1 i2 i3 = (0 : Int32) from by simp only [f0, if_pos hc5, if_pos hc7, if_neg hc9]] <;> rfl, N8⟩
    · refine own_go (fun _ k => XT.acmpYes X6.here hx rfl (pc0 := 38) (pc' := 50) rfl (hb hby at_38) rfl rfl rfl (XT.aa_ne_t (fun q => hc7 (Value.ref.inj q))) (by decide) (by decide) k) ?_
      show own_Fin p.tables e below _ (T6.setTop (mkF m 50 #[.val (.int i1), .val (.int i2), .val (.int i3), .val (.int (i3 &&& (15 : Int32))), .val (.ref (f1 rS rN rP i1)), .val (.ref (f1 rS rN rP i2)), .val (.ref (f1 rS rN rP (i3 &&& (15 : Int32))))] []))
      refine own_go (fun _ k => XT.iconstV X6.here hx rfl (0 : Int32) (hb hby at_50) (by decide) k) ?_
      show own_Fin p.tables e below _ (T6.setTop (mkF m 51 #[.val (.int i1), .val (.int i2), .val (.int i3), .val (.int (i3 &&& (15 : Int32))), .val (.ref (f1 rS rN rP i1)), .val (.ref (f1 rS rN rP i2)), .val (.ref (f1 rS rN rP (i3 &&& (15 : Int32))))] [(.int (0 : Int32))]))
      refine own_retN X6 hx hlk (t := .boolean) hret (by simp) (hb hby at_51) ?_ (by decide) (by decide)
      exact ⟨by rw [show f0 rS rN rP i1 i2 i3 = (0 : Int32) from by simp only [f0, if_pos hc5, if_neg hc7]] <;> rfl, N6⟩
  · refine own_go (fun _ k => XT.acmpYes X4.here hx rfl (pc0 := 29) (pc' := 50) rfl (hb hby at_29) rfl rfl rfl (XT.aa_ne_t (fun q => hc5 (Value.ref.inj q))) (by decide) (by decide) k) ?_
    show own_Fin p.tables e below _ (T4.setTop (mkF m 50 #[.val (.int i1), .val (.int i2), .val (.int i3), .val (.int (i3 &&& (15 : Int32))), .val (.ref (f1 rS rN rP i1)), .val (.ref (f1 rS rN rP i2)), .val (.ref (f1 rS rN rP (i3 &&& (15 : Int32))))] []))
    refine own_go (fun _ k => XT.iconstV X4.here hx rfl (0 : Int32) (hb hby at_50) (by decide) k) ?_
    show own_Fin p.tables e below _ (T4.setTop (mkF m 51 #[.val (.int i1), .val (.int i2), .val (.int i3), .val (.int (i3 &&& (15 : Int32))), .val (.ref (f1 rS rN rP i1)), .val (.ref (f1 rS rN rP i2)), .val (.ref (f1 rS rN rP (i3 &&& (15 : Int32))))] [(.int (0 : Int32))]))
    refine own_retN X4 hx hlk (t := .boolean) hret (by simp) (hb hby at_51) ?_ (by decide) (by decide)
    exact ⟨by rw [show f0 rS rN rP i1 i2 i3 = (0 : Int32) from by simp only [f0, if_neg hc5]] <;> rfl, N4⟩
theorem own_ord {args : Array Value} {s : State} {t u : Term} {C n d : String} {a b : Addr} {x y : Int32} (h1 : t.eval args s none [] s = some (.ref a)) (h2 : u.eval args s none [] s = some (.ref b)) (e : a = b) (g1 : (Jvm.Cond.eq (.field t C n d) (.int x)).value args s none s [] = some true) (g2 : (Jvm.Cond.eq (.field u C n d) (.int y)).value args s none s [] = some true) (hxy : x ≠ y) : False := by
  subst e
  have q1 : (Term.field t C n d).eval args s none [] s = s.fieldOf? a C n d := by simp [Term.eval, h1]
  have q2 : (Term.field u C n d).eval args s none [] s = s.fieldOf? a C n d := by simp [Term.eval, h2]
  have q3 : (Term.field t C n d).eval args s none [] s = (Term.field u C n d).eval args s none [] s := q1.trans q2.symm
  simp only [Cond.value, q3, Term.int_eval] at g1 g2
  cases hf : (Term.field u C n d).eval args s none [] s with
  | none => simp [hf] at g1
  | some v =>
    simp only [hf] at g1 g2
    cases v <;> simp_all
set_option maxRecDepth 65536 in
set_option maxHeartbeats 40000000 in
theorem comes_1 {Post : Tables → Env → Array Value → State → Outcome → State → Prop} (hpost : ∀ tb e args s v u, (limb_1_1.after args s (.returned v) u = true ∧ limb_1_2.after args s (.returned v) u = true ∧ True) → FrameEnd s (.returned v) u (Jvm.fieldLocs frame_1_writes args s ++ Jvm.arrayLocs frame_1_arrays args s ++ Jvm.staticLocs frame_1_statics s) 0 0 → Post tb e args s (.returned v) u) :
    ArmFor flags0 classFile x code maxLocals ret World_1 tables_1 room_1 Calls_1 rest_1 Pre_1 Post := by
  intro l hfl _ _ p e ha hc hk s m args below hf hA hF happ hP
  obtain ⟨hcalls, hrest, hpre⟩ := hP
  obtain ⟨-, -, -, hnamed, -, -, -, hat⟩ := (Spec.applies_iff hf).mp happ
  obtain ⟨hg, hn⟩ := and_e (Cond.before_iff.mp (show (Jvm.Cond.and given_1 narrow_1).before args s = true from hpre))
  obtain ⟨hcount, hr0⟩ := and_e hg
  obtain ⟨hk0, hr1⟩ := and_e hr0
  obtain ⟨hk1, hr2⟩ := and_e hr1
  obtain ⟨w0, w1, w2, rfl⟩ : ∃ w0 w1 w2 : Value, args = #[w0, w1, w2] := by
    have hs : args.size = 3 := by simpa [Cond.value, given_1] using hcount
    obtain ⟨L⟩ := args
    match L, hs with
    | [w0, w1, w2], _ => exact ⟨w0, w1, w2, rfl⟩
  have hw := fun d (hd : d ∈ tables_1) => atoms_spec (ws := Jvm.Cond.code x code maxLocals ret :: tables_1) hat d (List.mem_cons_of_mem _ hd)
  have hfit : Fit s := fun {y c} hc i hi => by
    obtain ⟨ha, rfl⟩ := Array.getElem?_eq_some_iff.mp hc
    have q := List.all_eq_true.mp ((Array.all_eq_true_iff_forall_mem.mp hF) _ (Array.getElem_mem ha)) i (List.mem_range.mpr hi)
    simpa [Array.getElem?_eq_getElem hi] using q
  obtain ⟨i0, ev0⟩ := is_v hk0
  obtain rfl : w0 = (.int i0) := Option.some.inj ev0
  obtain ⟨i1, ev1⟩ := is_v hk1
  obtain rfl : w1 = (.int i1) := Option.some.inj ev1
  obtain ⟨i2, ev2⟩ := is_v hr2
  obtain rfl : w2 = (.int i2) := Option.some.inj ev2
  obtain ⟨c1, hn⟩ := and_e hn
  obtain ⟨c2, hn⟩ := and_e hn
  obtain ⟨c3, hn⟩ := and_e hn
  obtain ⟨c4, hn⟩ := and_e hn
  obtain ⟨c5, c6⟩ := and_e hn
  obtain ⟨rP, _, _, _, vP, -⟩ := Cond.exactly_spec (Cond.before_iff.mpr c1)
  obtain ⟨rS, _, _, _, vS, -⟩ := Cond.exactly_spec (Cond.before_iff.mpr c2)
  obtain ⟨rN, _, _, _, vN, -⟩ := Cond.exactly_spec (Cond.before_iff.mpr c5)
  have SP : Sta s s.heap "com/example/tremorgrid/tremorgrid/analysis/Classifier$Verdict" "PERHAPS" "Lcom/example/tremorgrid/tremorgrid/analysis/Classifier$Verdict;" (.ref rP) := Sta.start vP (Or.inr ⟨hw _ (List.mem_of_getElem? (i := 5) rfl), hw _ (List.mem_of_getElem? (i := 6) rfl)⟩)
  have SS : Sta s s.heap "com/example/tremorgrid/tremorgrid/analysis/Classifier$Verdict" "STRICTLY" "Lcom/example/tremorgrid/tremorgrid/analysis/Classifier$Verdict;" (.ref rS) := Sta.start vS (Or.inr ⟨hw _ (List.mem_of_getElem? (i := 5) rfl), hw _ (List.mem_of_getElem? (i := 16) rfl)⟩)
  have SN : Sta s s.heap "com/example/tremorgrid/tremorgrid/analysis/Classifier$Verdict" "NOT_STRICTLY" "Lcom/example/tremorgrid/tremorgrid/analysis/Classifier$Verdict;" (.ref rN) := Sta.start vN (Or.inr ⟨hw _ (List.mem_of_getElem? (i := 5) rfl), hw _ (List.mem_of_getElem? (i := 18) rfl)⟩)
  have n1 : rN ≠ rS := fun q => own_ord vN vS q c6 c4 (by decide)
  have n2 : rP ≠ rS := fun q => own_ord vP vS q c3 c4 (by decide)
  have n3 : rP ≠ rN := fun q => own_ord vP vN q c3 c6 (by decide)
  obtain ⟨n, o, h1, h2, h3, _, L, rfl, ⟨hv, N⟩, hq⟩ := rm0 l s _ hw tables_1 i0 i1 i2 s.heap s.heap.size (Nat.le_refl _) rS rN rP SS SN SP p e ha hc hk s m _ below hf ((Spec.applies_iff_loose hf).mp happ).1 ⟨rfl, State.Warmed39.refl s, rfl⟩ trivial
  rw [own_law rS rN rP n1 n2 n3] at hv
  subst hv
  refine ⟨n, _, h1, h2, h3, hpost _ _ _ _ _ _ ⟨Cond.after_iff.mpr rfl, Cond.after_iff.mpr (eq_i res_at (Term.int_eval (1)) rfl), trivial⟩ ⟨hq.1, hq.2.1, (hq.2.2.sift fun y hy => Or.inr (N y hy)).mono (by decide) (by decide)⟩⟩
theorem main_1_1 : Claimed_1_1 := comes_1 fun _ _ _ _ _ _ h hF => ⟨h.1, hF⟩
theorem main_1_2 : Claimed_1_2 := comes_1 fun _ _ _ _ _ _ h hF => ⟨h.2.1, hF⟩
end Jvm.Pilot.@@N@@
namespace Jvm.Pilot.@@N@@
open Jvm Jvm.ClassFile Sem Op Lib Jvm.Free Jvm.Stand Jvm.Pilot.@@N@@.Jvm.D
/-! MADE BY PROGRAM (witnessworld.py) out of the Statement's table words and the real class files: 13 classes; the members and pool entries that the words name. The judged class is class 1, her method 3. -/
namespace start1
open Jvm.ClassFile
def u (s : String) : CpInfo := .utf8 (stringToUtf16 s)
/-- a pool by its gaps: so many unusable entries, then the entry; so many at the end -/
def gap : Nat → List CpInfo → List CpInfo
  | 0, r => r
  | n + 1, r => .unusable :: gap n r
def poolList (es : List (Nat × CpInfo)) (last : Nat) : List CpInfo := es.foldr (fun e r => gap e.1 (e.2 :: r)) (gap last [])
def pool (es : List (Nat × CpInfo)) (last : Nat) : Array CpInfo := ⟨poolList es last⟩
def fileOf (pool : Array CpInfo) (this : Nat) (attrs : Array Attribute := #[]) (ms : Array MethodInfo := #[]) (fl : Nat := 33) (sup : Nat := 0) (ifs : Array Nat := #[]) (fds : Array FieldInfo := #[]) : ClassFile where
  minorVersion := 0
  majorVersion := 65
  constantPool := pool
  accessFlags := fl
  thisClass := this
  superClass := sup
  interfaces := ifs
  fields := fds
  methods := ms
  attributes := attrs
def plain (name : String) (sup : Option ClassId) : Class where
  name := name
  kind := .ordinary
  loader := none
  accessFlags := 33
  super := sup
  interfaces := #[]
  cf := none
  fields := #[]
  methods := #[]
  instanceTypes := #[]
  staticTypes := #[]
  resolved := #[]
  callSites := []
  init := .initialized
  statics := none
  mirror := none

def pool0 : Array CpInfo := pool [(5, u "<init>"), (0, u "()V"), (1, .class_ 10), (1, u "java/lang/Object")] 113

def k0m0 : Method := { name := "<init>", desc := "()V", sig := { parameters := [], returnType := none }, accessFlags := 1, code := none }
/-- java/lang/Object -/
def k0 : Class := { plain "java/lang/Object" none with
  accessFlags := 33
  interfaces := #[]
  cf := some (fileOf pool0 8 #[] #[{ accessFlags := 1, nameIndex := 5, descriptorIndex := 6, attributes := #[] }] 33 0 #[] #[])
  fields := #[]
  methods := #[k0m0]
  instanceTypes := #[]
  staticTypes := #[]
  resolved := Array.replicate 124 none
  statics := none }

def pool1 : Array CpInfo := pool [(2, .class_ 4), (1, u "java/lang/Object"), (0, u "<init>"), (0, u "()V"), (0, .fieldref 8 9), (0, .class_ 10), (0, .nameAndType 11 12), (0, u "com/example/tremorgrid/tremorgrid/analysis/Classifier$Verdict"), (0, u "STRICTLY"), (0, u "Lcom/example/tremorgrid/tremorgrid/analysis/Classifier$Verdict;"), (0, .fieldref 8 14), (0, .nameAndType 15 12), (0, u "NOT_STRICTLY"), (0, .fieldref 8 17), (0, .nameAndType 18 12), (0, u "PERHAPS"), (0, .methodref 20 21), (0, .class_ 22), (0, .nameAndType 23 24), (0, u "com/example/tremorgrid/tremorgrid/analysis/Classifier"), (0, u "verdictOf"), (0, u "(I)Lcom/example/tremorgrid/tremorgrid/analysis/Classifier$Verdict;"), (0, .methodref 26 27), (0, .class_ 28), (0, .nameAndType 29 24), (0, u "com/example/tremorgrid/tremorgrid/analysis/ClassifierVerdictOfPinLaw"), (0, u "expected"), (0, .methodref 26 31), (0, .nameAndType 32 33), (0, u "rank"), (0, u "(Lcom/example/tremorgrid/tremorgrid/analysis/Classifier$Verdict;)I"), (3, u "law"), (0, u "(III)Z")] 4

def k1m0 : Method := { name := "<init>", desc := "()V", sig := { parameters := [], returnType := none }, accessFlags := 1, code := none }
def k1c1 : Code := { maxStack := 2, maxLocals := 1, code := method_2_code, exceptionTable := #[], attributes := #[] }
def k1m1 : Method := { name := "expected", desc := "(I)Lcom/example/tremorgrid/tremorgrid/analysis/Classifier$Verdict;", sig := { parameters := [.int], returnType := some (.object "com/example/tremorgrid/tremorgrid/analysis/Classifier$Verdict") }, accessFlags := 10, code := some k1c1 }
def k1c2 : Code := { maxStack := 2, maxLocals := 1, code := method_3_code, exceptionTable := #[], attributes := #[] }
def k1m2 : Method := { name := "rank", desc := "(Lcom/example/tremorgrid/tremorgrid/analysis/Classifier$Verdict;)I", sig := { parameters := [(.object "com/example/tremorgrid/tremorgrid/analysis/Classifier$Verdict")], returnType := some .int }, accessFlags := 10, code := some k1c2 }
def k1c3 : Code := { maxStack := 2, maxLocals := 7, code := code, exceptionTable := #[], attributes := #[] }
def k1m3 : Method := { name := "law", desc := "(III)Z", sig := { parameters := [.int, .int, .int], returnType := some .boolean }, accessFlags := 9, code := some k1c3 }
/-- com/example/tremorgrid/tremorgrid/analysis/ClassifierVerdictOfPinLaw -/
def k1 : Class := { plain "com/example/tremorgrid/tremorgrid/analysis/ClassifierVerdictOfPinLaw" (some 0) with
  accessFlags := 49
  interfaces := #[]
  cf := some (fileOf pool1 26 #[] #[{ accessFlags := 1, nameIndex := 5, descriptorIndex := 6, attributes := #[] }, { accessFlags := 10, nameIndex := 29, descriptorIndex := 24, attributes := #[] }, { accessFlags := 10, nameIndex := 32, descriptorIndex := 33, attributes := #[] }, { accessFlags := 9, nameIndex := 37, descriptorIndex := 38, attributes := #[] }] 49 2 #[] #[])
  fields := #[]
  methods := #[k1m0, k1m1, k1m2, k1m3]
  instanceTypes := #[]
  staticTypes := #[]
  resolved := Array.replicate 43 none
  statics := none }

def pool2 : Array CpInfo := pool [(8, .class_ 10), (1, u "com/example/tremorgrid/tremorgrid/analysis/Classifier$Templates"), (3, .class_ 16), (1, u "com/example/tremorgrid/tremorgrid/analysis/Classifier"), (3, .class_ 22), (1, u "java/lang/Object"), (3, u "names"), (0, u "Ljava/util/List;"), (2, u "templates"), (0, u "Lcom/example/tremorgrid/tremorgrid/analysis/Classifier$Templates;"), (6, u "rows"), (0, u "I"), (2, u "twoThirds"), (7, u "[[D"), (2, u "table"), (2, u "means"), (0, u "[D"), (2, u "rowMeans"), (2, u "deviations"), (51, .class_ 116), (0, u "com/example/tremorgrid/tremorgrid/analysis/Classifier$Rating"), (1, .class_ 120), (1, u "com/example/tremorgrid/tremorgrid/analysis/Classifier$Verdict"), (1, u "Lcom/example/tremorgrid/tremorgrid/analysis/Classifier$Verdict;"), (5, u "verdictOf"), (0, u "(I)Lcom/example/tremorgrid/tremorgrid/analysis/Classifier$Verdict;"), (0, .fieldref 118 131), (0, .nameAndType 132 122), (0, u "STRICTLY"), (0, .fieldref 118 134), (0, .nameAndType 135 122), (0, u "NOT_STRICTLY"), (0, .fieldref 118 137), (0, .nameAndType 138 122), (0, u "PERHAPS"), (43, .class_ 183), (0, u "com/example/tremorgrid/tremorgrid/analysis/Classifier$Sums"), (46, u "DISTANCES")] 42

def k2c0 : Code := { maxStack := 2, maxLocals := 1, code := prog_2_method_9_code, exceptionTable := #[], attributes := #[] }
def k2m0 : Method := { name := "verdictOf", desc := "(I)Lcom/example/tremorgrid/tremorgrid/analysis/Classifier$Verdict;", sig := { parameters := [.int], returnType := some (.object "com/example/tremorgrid/tremorgrid/analysis/Classifier$Verdict") }, accessFlags := 8, code := some k2c0 }
/-- com/example/tremorgrid/tremorgrid/analysis/Classifier -/
def k2 : Class := { plain "com/example/tremorgrid/tremorgrid/analysis/Classifier" (some 0) with
  accessFlags := 49
  interfaces := #[]
  cf := some (fileOf pool2 14 #[.nestMembers #[182, 8, 115, 118]] #[{ accessFlags := 8, nameIndex := 128, descriptorIndex := 129, attributes := #[] }] 49 20 #[] #[{ accessFlags := 25, nameIndex := 230, descriptorIndex := 39, attributes := #[] }, { accessFlags := 26, nameIndex := 132, descriptorIndex := 39, attributes := #[] }, { accessFlags := 26, nameIndex := 135, descriptorIndex := 39, attributes := #[] }, { accessFlags := 18, nameIndex := 26, descriptorIndex := 27, attributes := #[] }, { accessFlags := 18, nameIndex := 30, descriptorIndex := 31, attributes := #[] }, { accessFlags := 18, nameIndex := 53, descriptorIndex := 50, attributes := #[] }, { accessFlags := 18, nameIndex := 56, descriptorIndex := 57, attributes := #[] }, { accessFlags := 18, nameIndex := 60, descriptorIndex := 57, attributes := #[] }, { accessFlags := 18, nameIndex := 63, descriptorIndex := 57, attributes := #[] }, { accessFlags := 18, nameIndex := 38, descriptorIndex := 39, attributes := #[] }, { accessFlags := 18, nameIndex := 42, descriptorIndex := 39, attributes := #[] }])
  fields := #[{ name := "DISTANCES", type := .int, accessFlags := 25, slot := 0, constantValue := 0 }, { name := "STRICTLY", type := .int, accessFlags := 26, slot := 1, constantValue := 0 }, { name := "NOT_STRICTLY", type := .int, accessFlags := 26, slot := 2, constantValue := 0 }, { name := "names", type := (.object "java/util/List"), accessFlags := 18, slot := 0, constantValue := 0 }, { name := "templates", type := (.object "com/example/tremorgrid/tremorgrid/analysis/Classifier$Templates"), accessFlags := 18, slot := 1, constantValue := 0 }, { name := "table", type := (.array (.array .double)), accessFlags := 18, slot := 2, constantValue := 0 }, { name := "means", type := (.array .double), accessFlags := 18, slot := 3, constantValue := 0 }, { name := "rowMeans", type := (.array .double), accessFlags := 18, slot := 4, constantValue := 0 }, { name := "deviations", type := (.array .double), accessFlags := 18, slot := 5, constantValue := 0 }, { name := "rows", type := .int, accessFlags := 18, slot := 6, constantValue := 0 }, { name := "twoThirds", type := .int, accessFlags := 18, slot := 7, constantValue := 0 }]
  methods := #[k2m0]
  instanceTypes := #[(.object "java/util/List"), (.object "com/example/tremorgrid/tremorgrid/analysis/Classifier$Templates"), (.array (.array .double)), (.array .double), (.array .double), (.array .double), .int, .int]
  staticTypes := #[.int, .int, .int]
  resolved := Array.replicate 273 none
  statics := none }

def pool3 : Array CpInfo := pool [(1, .class_ 2), (0, u "java/lang/constant/Constable"), (0, .class_ 4), (0, u "java/lang/Object")] 6

/-- java/lang/constant/Constable -/
def k3 : Class := { plain "java/lang/constant/Constable" (some 0) with
  accessFlags := 1537
  interfaces := #[]
  cf := some (fileOf pool3 1 #[] #[] 1537 3 #[] #[])
  fields := #[]
  methods := #[]
  instanceTypes := #[]
  staticTypes := #[]
  resolved := Array.replicate 11 none
  statics := none }

def pool4 : Array CpInfo := pool [(1, .class_ 2), (0, u "java/lang/Comparable"), (0, .class_ 4), (0, u "java/lang/Object")] 7

/-- java/lang/Comparable -/
def k4 : Class := { plain "java/lang/Comparable" (some 0) with
  accessFlags := 1537
  interfaces := #[]
  cf := some (fileOf pool4 1 #[] #[] 1537 3 #[] #[])
  fields := #[]
  methods := #[]
  instanceTypes := #[]
  staticTypes := #[]
  resolved := Array.replicate 12 none
  statics := none }

def pool5 : Array CpInfo := pool [(1, .class_ 2), (0, u "java/io/Serializable"), (0, .class_ 4), (0, u "java/lang/Object")] 2

/-- java/io/Serializable -/
def k5 : Class := { plain "java/io/Serializable" (some 0) with
  accessFlags := 1537
  interfaces := #[]
  cf := some (fileOf pool5 1 #[] #[] 1537 3 #[] #[])
  fields := #[]
  methods := #[]
  instanceTypes := #[]
  staticTypes := #[]
  resolved := Array.replicate 7 none
  statics := none }

def pool6 : Array CpInfo := pool [(2, .class_ 4), (1, u "java/lang/Enum"), (0, u "name"), (0, u "Ljava/lang/String;"), (2, u "ordinal"), (0, u "I"), (1, .class_ 14), (1, u "java/lang/Object"), (4, u "hash"), (86, .class_ 108), (1, u "java/lang/Enum$EnumDesc"), (2, .class_ 112), (0, u "java/lang/constant/Constable"), (0, .class_ 114), (0, u "java/lang/Comparable"), (0, .class_ 116), (0, u "java/io/Serializable")] 87

/-- java/lang/Enum -/
def k6 : Class := { plain "java/lang/Enum" (some 0) with
  accessFlags := 1057
  interfaces := #[3, 4, 5]
  cf := some (fileOf pool6 2 #[.nestMembers #[106]] #[] 1057 12 #[111, 113, 115] #[{ accessFlags := 18, nameIndex := 5, descriptorIndex := 6, attributes := #[] }, { accessFlags := 18, nameIndex := 9, descriptorIndex := 10, attributes := #[] }, { accessFlags := 2, nameIndex := 19, descriptorIndex := 10, attributes := #[] }])
  fields := #[{ name := "name", type := (.object "java/lang/String"), accessFlags := 18, slot := 0, constantValue := 0 }, { name := "ordinal", type := .int, accessFlags := 18, slot := 1, constantValue := 0 }, { name := "hash", type := .int, accessFlags := 2, slot := 2, constantValue := 0 }]
  methods := #[]
  instanceTypes := #[(.object "java/lang/String"), .int, .int]
  staticTypes := #[]
  resolved := Array.replicate 204 none
  statics := none }

def pool7 : Array CpInfo := pool [(1, .class_ 2), (0, u "com/example/tremorgrid/tremorgrid/analysis/Classifier$Verdict"), (2, u "STRICTLY"), (0, u "Lcom/example/tremorgrid/tremorgrid/analysis/Classifier$Verdict;"), (2, u "NOT_STRICTLY"), (2, u "PERHAPS"), (2, u "UNDEFINED"), (2, u "$VALUES"), (0, u "[Lcom/example/tremorgrid/tremorgrid/analysis/Classifier$Verdict;"), (6, .class_ 28), (1, u "java/lang/Enum"), (8, u "key"), (0, u "Ljava/lang/String;"), (2, u "label"), (35, .class_ 78), (0, u "com/example/tremorgrid/tremorgrid/analysis/Classifier")] 2

/-- com/example/tremorgrid/tremorgrid/analysis/Classifier$Verdict -/
def k7 : Class := { plain "com/example/tremorgrid/tremorgrid/analysis/Classifier$Verdict" (some 6) with
  accessFlags := 16433
  interfaces := #[]
  cf := some (fileOf pool7 1 #[.nestHost 77] #[] 16433 26 #[] #[{ accessFlags := 16409, nameIndex := 5, descriptorIndex := 6, attributes := #[] }, { accessFlags := 16409, nameIndex := 9, descriptorIndex := 6, attributes := #[] }, { accessFlags := 16409, nameIndex := 12, descriptorIndex := 6, attributes := #[] }, { accessFlags := 16409, nameIndex := 15, descriptorIndex := 6, attributes := #[] }, { accessFlags := 18, nameIndex := 37, descriptorIndex := 38, attributes := #[] }, { accessFlags := 18, nameIndex := 41, descriptorIndex := 38, attributes := #[] }, { accessFlags := 4122, nameIndex := 18, descriptorIndex := 19, attributes := #[] }])
  fields := #[{ name := "STRICTLY", type := (.object "com/example/tremorgrid/tremorgrid/analysis/Classifier$Verdict"), accessFlags := 16409, slot := 0, constantValue := 0 }, { name := "NOT_STRICTLY", type := (.object "com/example/tremorgrid/tremorgrid/analysis/Classifier$Verdict"), accessFlags := 16409, slot := 1, constantValue := 0 }, { name := "PERHAPS", type := (.object "com/example/tremorgrid/tremorgrid/analysis/Classifier$Verdict"), accessFlags := 16409, slot := 2, constantValue := 0 }, { name := "UNDEFINED", type := (.object "com/example/tremorgrid/tremorgrid/analysis/Classifier$Verdict"), accessFlags := 16409, slot := 3, constantValue := 0 }, { name := "key", type := (.object "java/lang/String"), accessFlags := 18, slot := 3, constantValue := 0 }, { name := "label", type := (.object "java/lang/String"), accessFlags := 18, slot := 4, constantValue := 0 }, { name := "$VALUES", type := (.array (.object "com/example/tremorgrid/tremorgrid/analysis/Classifier$Verdict")), accessFlags := 4122, slot := 4, constantValue := 0 }]
  methods := #[]
  instanceTypes := #[(.object "java/lang/String"), .int, .int, (.object "java/lang/String"), (.object "java/lang/String")]
  staticTypes := #[(.object "com/example/tremorgrid/tremorgrid/analysis/Classifier$Verdict"), (.object "com/example/tremorgrid/tremorgrid/analysis/Classifier$Verdict"), (.object "com/example/tremorgrid/tremorgrid/analysis/Classifier$Verdict"), (.object "com/example/tremorgrid/tremorgrid/analysis/Classifier$Verdict"), (.array (.object "com/example/tremorgrid/tremorgrid/analysis/Classifier$Verdict"))]
  resolved := Array.replicate 81 none
  statics := some 0 }

def pool8 : Array CpInfo := pool [(1, u "java/lang/Cloneable"), (0, .class_ 1), (0, u "java/lang/Object"), (0, .class_ 3)] 3

/-- java/lang/Cloneable -/
def k8 : Class := { plain "java/lang/Cloneable" (some 0) with
  accessFlags := 1537
  interfaces := #[]
  cf := some (fileOf pool8 2 #[] #[] 1537 4 #[] #[])
  fields := #[]
  methods := #[]
  instanceTypes := #[]
  staticTypes := #[]
  resolved := Array.replicate 8 none
  statics := none }

/-- the primitive byte -/
def k9 : Class := { plain "byte" none with kind := .primitive 'B', accessFlags := 0x411 }
/-- [B -/
def k10 : Class := { plain "[B" (some 0) with kind := .array 9 .byte, interfaces := #[8, 5], accessFlags := 1041 }

/-- the primitive int -/
def k11 : Class := { plain "int" none with kind := .primitive 'I', accessFlags := 0x411 }
/-- [I -/
def k12 : Class := { plain "[I" (some 0) with kind := .array 11 .int, interfaces := #[8, 5], accessFlags := 1041 }

def heap : Heap := #[{ cls := 7, slots := #[.ref 1, .ref 2, .ref 3, .null, .null], vm := .statics 7 },
  { cls := 7, slots := #[.null, .int 0, .int 0, .null, .null], vm := .none },
  { cls := 7, slots := #[.null, .int 1, .int 0, .null, .null], vm := .none },
  { cls := 7, slots := #[.null, .int 2, .int 0, .null, .null], vm := .none }]
def classes : Array Class := #[k0, k1, k2, k3, k4, k5, k6, k7, k8, k9, k10, k11, k12]
def interned : List (Array UInt16 × Addr) := []
def slotsUsed : Nat := 20
def theMethod : MethodId := ⟨1, 3⟩
def args0 : Array Value := #[.int 1, .int 2, .int 3]
def aboutOver (below : List Frame) : State where
  vm := { classes := classes, interned := interned.toArray }
  heap := heap
  slotsUsed := slotsUsed
  threads := #[{ frames := .invoking theMethod args0 :: below }]
def below0 : List Frame := [.native { method := ⟨0, 0⟩, args := #[] }]
def about1 : State := aboutOver below0
def p0 : Program := .bare "" "" ""
def e0 : Env := launch0.env 0 0 0
theorem w_frames : about1.frames = Frame.invoking theMethod args0 :: below0 := rfl
set_option maxRecDepth 65536 in
theorem w_args : argsFit about1.vm theMethod args0 = true := by decide +kernel
set_option maxRecDepth 65536 in
theorem w_heap : heapFits about1 = true := by decide +kernel
set_option maxRecDepth 65536 in
theorem w_runnable : about1.curStatus? = some .runnable := by decide +kernel
set_option maxRecDepth 65536 in
theorem w_alone : about1.alone = true := by decide +kernel
set_option maxRecDepth 65536 in
theorem w_named : about1.methodNamed? x = some theMethod := by decide +kernel
set_option maxRecDepth 65536 in
theorem w_hears : about1.hears theMethod below0 = true := by decide +kernel
set_option maxRecDepth 65536 in
theorem w_ripe : about1.ripe theMethod args0 below0 = true := by decide +kernel
theorem w_running : about1.status = .running := rfl
set_option maxRecDepth 65536 in
theorem w_room : about1.hasRoom e0.platform room_1 = true :=
  launch0.hasRoom_least _ room_1 (by decide +kernel) (by decide +kernel) (by decide +kernel) (by decide +kernel) (by decide +kernel) (by decide +kernel)
theorem allAtoms_all (ts : List Jvm.Cond) (a : Array Jvm.Value) (st : Jvm.State) : (allAtoms ts).before a st = ts.all (fun c => c.before a st) := by
  induction ts with
  | nil => rfl
  | cons c t ih =>
    show (Jvm.Cond.and c (allAtoms t)).before a st = _
    rw [Jvm.Cond.before_and, ih, List.all_cons]
def words1 : List Jvm.Cond := Jvm.Cond.code x code maxLocals ret :: tables_1
/-- a 'code' word, met by the world's own term for the bytes: nothing is compared byte by byte -/
theorem code_word {y : MethodName} {bytes : ByteArray} {mx : Nat} {rt : Option FieldType} {a : Array Value} {s : State} {m : MethodId} {meth : Method} {c : Code} (h1 : s.methodNamed? y = some m) (h2 : s.vm.method? m = some meth) (h3 : meth.code = some c) (h4 : c.code = bytes)
    (h5 : (c.maxLocals == mx && c.exceptionTable.isEmpty && decide (c.maxStack ≤ mostOperands) && decide (meth.sig.returnType = rt) && !meth.locks && decide (parseMethodDescriptor y.desc = some meth.sig)) = true) : (Jvm.Cond.code y bytes mx rt).before a s = true := by
  simp only [Bool.and_eq_true, beq_iff_eq, Bool.not_eq_true', decide_eq_true_eq] at h5
  obtain ⟨⟨⟨⟨⟨g1, g2⟩, g3⟩, g4⟩, g5⟩, g6⟩ := h5
  simp [Cond.before, Cond.holds, Cond.value, h1, h2, h3, h4, g1, g2, g3, g4, g5, g6]
def isCode : Jvm.Cond → Bool
  | .code _ _ _ _ => true
  | _ => false
theorem all_split {L : List Jvm.Cond} {P : Jvm.Cond → Bool} (h1 : L.all (fun c => isCode c || P c) = true) (h2 : ∀ c ∈ L.filter isCode, P c = true) : L.all P = true := by
  refine List.all_eq_true.mpr fun c hc => ?_
  have h := List.all_eq_true.mp h1 c hc
  rcases Bool.eq_false_or_eq_true (isCode c) with hi | hi
  · exact h2 c (List.mem_filter.mpr ⟨hc, hi⟩)
  · simpa [hi] using h
set_option maxRecDepth 65536 in
theorem w_c0 : (Jvm.Cond.code x code maxLocals ret).before args0 about1 = true := code_word (m := ⟨1, 3⟩) (meth := k1m3) (c := k1c3) (by decide +kernel) rfl rfl rfl (by decide +kernel)
set_option maxRecDepth 65536 in
theorem w_c1 : (Jvm.Cond.code ({ cls := "com/example/tremorgrid/tremorgrid/analysis/Classifier", name := "verdictOf", desc := "(I)Lcom/example/tremorgrid/tremorgrid/analysis/Classifier$Verdict;" } : Jvm.MethodName) prog_2_method_9_code (1 : Nat) (Option.some (Jvm.ClassFile.FieldType.object "com/example/tremorgrid/tremorgrid/analysis/Classifier$Verdict"))).before args0 about1 = true := code_word (m := ⟨2, 0⟩) (meth := k2m0) (c := k2c0) (by decide +kernel) rfl rfl rfl (by decide +kernel)
set_option maxRecDepth 65536 in
theorem w_c2 : (Jvm.Cond.code ({ cls := "com/example/tremorgrid/tremorgrid/analysis/ClassifierVerdictOfPinLaw", name := "expected", desc := "(I)Lcom/example/tremorgrid/tremorgrid/analysis/Classifier$Verdict;" } : Jvm.MethodName) method_2_code (1 : Nat) (Option.some (Jvm.ClassFile.FieldType.object "com/example/tremorgrid/tremorgrid/analysis/Classifier$Verdict"))).before args0 about1 = true := code_word (m := ⟨1, 1⟩) (meth := k1m1) (c := k1c1) (by decide +kernel) rfl rfl rfl (by decide +kernel)
set_option maxRecDepth 65536 in
theorem w_c3 : (Jvm.Cond.code ({ cls := "com/example/tremorgrid/tremorgrid/analysis/ClassifierVerdictOfPinLaw", name := "rank", desc := "(Lcom/example/tremorgrid/tremorgrid/analysis/Classifier$Verdict;)I" } : Jvm.MethodName) method_3_code (1 : Nat) (Option.some Jvm.ClassFile.FieldType.int)).before args0 about1 = true := code_word (m := ⟨1, 2⟩) (meth := k1m2) (c := k1c2) (by decide +kernel) rfl rfl rfl (by decide +kernel)
def codes1 : List Jvm.Cond := [Jvm.Cond.code x code maxLocals ret, Jvm.Cond.code ({ cls := "com/example/tremorgrid/tremorgrid/analysis/Classifier", name := "verdictOf", desc := "(I)Lcom/example/tremorgrid/tremorgrid/analysis/Classifier$Verdict;" } : Jvm.MethodName) prog_2_method_9_code (1 : Nat) (Option.some (Jvm.ClassFile.FieldType.object "com/example/tremorgrid/tremorgrid/analysis/Classifier$Verdict")), Jvm.Cond.code ({ cls := "com/example/tremorgrid/tremorgrid/analysis/ClassifierVerdictOfPinLaw", name := "expected", desc := "(I)Lcom/example/tremorgrid/tremorgrid/analysis/Classifier$Verdict;" } : Jvm.MethodName) method_2_code (1 : Nat) (Option.some (Jvm.ClassFile.FieldType.object "com/example/tremorgrid/tremorgrid/analysis/Classifier$Verdict")), Jvm.Cond.code ({ cls := "com/example/tremorgrid/tremorgrid/analysis/ClassifierVerdictOfPinLaw", name := "rank", desc := "(Lcom/example/tremorgrid/tremorgrid/analysis/Classifier$Verdict;)I" } : Jvm.MethodName) method_3_code (1 : Nat) (Option.some Jvm.ClassFile.FieldType.int)]
set_option maxRecDepth 65536 in
theorem codes_eq : words1.filter isCode = codes1 := rfl
theorem w_codes : ∀ c ∈ words1.filter isCode, c.before args0 about1 = true := by
  rw [codes_eq]
  intro c hc
  simp only [codes1, List.mem_cons, List.not_mem_nil, or_false] at hc
  rcases hc with rfl | rfl | rfl | rfl
  · exact w_c0
  · exact w_c1
  · exact w_c2
  · exact w_c3
set_option maxRecDepth 65536 in
theorem w_t1 : words1.all (fun c => isCode c || c.before args0 about1) = true := by decide +kernel
theorem w_tables : (allAtoms (Jvm.Cond.code x code maxLocals ret :: tables_1)).before args0 about1 = true := by
  rw [allAtoms_all]
  show words1.all (fun c => c.before args0 about1) = true
  refine all_split ?_ w_codes
  rw [w_t1]
set_option maxRecDepth 65536 in
theorem w_case : (Jvm.Cond.and given_1 narrow_1).before args0 about1 = true := by decide +kernel
theorem w_applies : (headSpec (Jvm.Cond.code x code maxLocals ret :: tables_1) room_1).applies x e0.platform about1 = true :=
  (Spec.applies_iff w_frames).mpr ⟨w_running, w_runnable, w_alone, w_named, w_hears, w_ripe, w_room, w_tables⟩
theorem atStart : AtStart classFile x code maxLocals ret World_1 tables_1 room_1 Calls_1 rest_1 Pre_1 launch0 p0 e0 about1 theMethod args0 below0 :=
  ⟨lists_1, trivial, launch0.admits_env _ _ _, launch0.least_env, fairChoices_fair.cas, fairChoices_fair.clock, w_frames, w_args, w_heap, w_applies, trivial, trivial, w_case⟩
end start1
theorem witness_1 : WitnessClaimed_1 := ⟨start1.p0, start1.e0, start1.about1, start1.theMethod, start1.args0, start1.below0, start1.atStart⟩
end Jvm.Pilot.@@N@@
