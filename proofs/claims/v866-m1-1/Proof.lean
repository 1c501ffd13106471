import JvmDerived
import JvmDerived.Pilot.@@N@@Statement
import JvmDerived.Pilot.@@N@@Code
set_option linter.unusedVariables false
set_option linter.unusedSimpArgs false
namespace Jvm.Pilot.@@N@@
open Jvm Jvm.ClassFile Sem Op Lib Jvm.Free Jvm.Stand Jvm.LawKit Jvm.RoadKit Bundle Jvm.Pilot.@@N@@.Jvm.D
section Own
variable {p : Program} {l : Launch} {e : Env} {R : Room} {s : State} {m : MethodId} {args : Array Value} {below : List Frame} {meth : Method} {c : Code} {T : State} {locs : List Loc} {cells slots : Nat} {Z : State} {a0 : Array Value} {h : Heap}
def own_Go (p : Program) (e : Env) (below : List Frame) (Q : Outcome → State → Prop) (T : State) (g : JFrame) : Prop := ∃ s₂ o, Steps p.tables e below (T.setTop g) s₂ ∧ s₂.status = .running ∧ Ended s₂ below o ∧ Q o s₂
theorem own_st {Q : Outcome → State → Prop} {T T' : State} {g g' : JFrame} (h : ∀ t, Steps p.tables e below (T'.setTop g') t → Steps p.tables e below (T.setTop g) t) (k : own_Go p e below Q T' g') : own_Go p e below Q T g := by
  obtain ⟨s₂, o, h1, h2⟩ := k
  exact ⟨s₂, o, h _ h1, h2⟩
theorem own_s {Q : Outcome → State → Prop} {T : State} {g : JFrame} (T' : State) (g' : JFrame) (h : ∀ t, Steps p.tables e below (T'.setTop g') t → Steps p.tables e below (T.setTop g) t) (k : own_Go p e below Q T' g') : own_Go p e below Q T g := own_st h k
abbrev u_ : Slot := .unset
abbrev v_ : Slot := .second
theorem own_cast {Q : Outcome → State → Prop} {T : State} {g g' : JFrame} (q : g = g') (k : own_Go p e below Q T g') : own_Go p e below Q T g := q ▸ k
def own_Post (Qv : Option Value → Heap → List Loc → Prop) (kc ks : Nat) (U : State) (o : Outcome) (U' : State) : Prop := ∃ v L, o = .returned v ∧ Qv v U'.heap L ∧ FrameEnd U o U' L kc ks
def own_Met (l : Launch) (Z : State) (y : MethodName) (bytes : ByteArray) (maxL : Nat) (ret : Option FieldType) (ws : List Jvm.Cond) (rm : Room) (h0 : Heap) (as' : Array Value) (Qv : Option Value → Heap → List Loc → Prop) (kc ks : Nat) : Prop :=
  MetFree l y (head1 (Jvm.Cond.code y bytes maxL ret :: ws) rm) (fun a U => a = as' ∧ Z.Warmed39 U.vm ∧ U.heap = h0) (fun _ _ _ _ _ => True) (fun _ U o U' => own_Post Qv kc ks U o U')
theorem own_start {y : MethodName} {bytes : ByteArray} {maxL : Nat} {ret : Option FieldType} {ws : List Jvm.Cond} {rm : Room} {h0 : Heap} {as' : Array Value} {Qv : Option Value → Heap → List Loc → Prop} {kc ks : Nat} (hpl : plainFor y = true)
    (body : ∀ (p : Program) (e : Env) (s : State) (m : MethodId) (below : List Frame) (meth : Method) (c : Code) (s₁ : State), Stand p l e rm s m as' below meth c s₁ [] 0 0 → p.tables.exec = Jvm.exec → Z.Warmed39 s.vm → c.code = bytes → c.maxLocals = maxL → meth.sig.returnType = ret → meth.locks = false → s.vm.findClass y.cls = some m.cls → meth.name = y.name → s₁.heap = h0 → own_Go p e below (own_Post Qv kc ks s) s₁ (entryFrame m as' maxL)) :
    own_Met l Z y bytes maxL ret ws rm h0 as' Qv kc ks := by
  refine MetFree.of_bodySF hpl hisR ?_
  intro p e s m args below meth c s₁ Bd hml0 hP hK
  obtain ⟨rfl, hZ, hh⟩ := hP
  exact body p e s m below meth c s₁ (Stand.of_body Bd) Bd.exec hZ Bd.bytes hml0 Bd.returns Bd.notSynchronized (findClass_of_methodNamed Bd.named) (name_of_methodNamed Bd.named Bd.method).1 (by rw [← hh, Bd.state]; rfl)
def own_PostW (Qv : Option Value → Heap → Vm → List Loc → Prop) (kc ks : Nat) (U : State) (o : Outcome) (U' : State) : Prop := ∃ v L, o = .returned v ∧ Qv v U'.heap U'.vm L ∧ ReturnedEndW U o U' L kc ks
def own_MetW (l : Launch) (Z : State) (y : MethodName) (bytes : ByteArray) (maxL : Nat) (ret : Option FieldType) (ws : List Jvm.Cond) (rm : Room) (h0 : Heap) (J : Vm → Prop) (as' : Array Value) (Qv : Option Value → Heap → Vm → List Loc → Prop) (kc ks : Nat) : Prop :=
  MetFree l y (head1 (Jvm.Cond.code y bytes maxL ret :: ws) rm) (fun a U => a = as' ∧ Z.Warmed39 U.vm ∧ U.heap = h0 ∧ J U.vm) (fun _ _ _ _ _ => True) (fun _ U o U' => own_PostW Qv kc ks U o U')
theorem own_startW {y : MethodName} {bytes : ByteArray} {maxL : Nat} {ret : Option FieldType} {ws : List Jvm.Cond} {rm : Room} {h0 : Heap} {J : Vm → Prop} {as' : Array Value} {Qv : Option Value → Heap → Vm → List Loc → Prop} {kc ks : Nat} (hpl : plainFor y = true)
    (body : ∀ (p : Program) (e : Env) (s : State) (m : MethodId) (below : List Frame) (meth : Method) (c : Code) (s₁ : State), Stand p l e rm (s.setVm s.vm) m as' below meth c s₁ [] 0 0 → p.tables.exec = Jvm.exec → Z.Warmed39 s.vm → c.code = bytes → c.maxLocals = maxL → meth.sig.returnType = ret → meth.locks = false → s.vm.findClass y.cls = some m.cls → meth.name = y.name → s₁.heap = h0 → s.Since s.vm 0 → s.heap = h0 → J s.vm → own_Go p e below (own_PostW Qv kc ks s) s₁ (entryFrame m as' maxL)) :
    own_MetW l Z y bytes maxL ret ws rm h0 J as' Qv kc ks := by
  refine MetFree.of_bodySF hpl hisR ?_
  intro p e s m args below meth c s₁ Bd hml0 hP hK
  obtain ⟨rfl, hZ, hh, hJ⟩ := hP
  exact body p e s m below meth c s₁ (Stand.of_body Bd) Bd.exec hZ Bd.bytes hml0 Bd.returns Bd.notSynchronized (findClass_of_methodNamed Bd.named) (name_of_methodNamed Bd.named Bd.method).1 (by rw [← hh, Bd.state]; rfl) ((State.WarmedH.refl s).since 0) hh hJ
def own_End (e : Env) (below : List Frame) (m : MethodId) (T : State) (v : Option Value) (P : Outcome → State → Prop) : Prop := ∃ fs, (∀ (f : JFrame) (acts : List Action), f.method = m → f.locked = none → f.entered = [] → (doReturn e (T.setTop f) acts v).1 = T.setFrames fs) ∧ (T.setFrames fs).status = .running ∧ Ended (T.setFrames fs) below (.returned v) ∧ P (.returned v) (T.setFrames fs)
theorem own_end {Qv : Option Value → Heap → List Loc → Prop} {kc ks : Nat} (X : Stand p l e R s m args below meth c T locs cells slots) {v : Option Value} (hv : meth.sig.returnType = none → v = none) (hlocks : meth.locks = false) (hc : cells ≤ kc) (hs : slots ≤ ks) (eT : T.heap = h) (q : Qv v h locs) : own_End e below m T v (own_Post Qv kc ks s) := by
  obtain ⟨fs, hr, hrun, hended, hW, hsame⟩ := X.leave hv hlocks
  exact ⟨fs, hr, hrun, hended, _, _, rfl, (by show Qv v T.heap locs; rw [eT]; exact q), ⟨_, rfl⟩, hW, hsame.mono hc hs⟩
theorem own_endW {Qv : Option Value → Heap → Vm → List Loc → Prop} {kc ks : Nat} {vm1 : Vm} (X : Stand p l e R (s.setVm vm1) m args below meth c T locs cells slots) {n : Nat} (hS : s.Since vm1 n) {v : Option Value} (hv : meth.sig.returnType = none → v = none) (hlocks : meth.locks = false) (hc : cells ≤ kc) (hs : slots ≤ ks) (eT : T.heap = h) (hk : n ≤ h.size) (q : ∀ vm', (s.setVm vm1).WarmedH vm' → Qv v h vm' locs) : own_End e below m T v (own_PostW Qv kc ks s) := by
  obtain ⟨fs, hr, hrun, hended, hE⟩ := X.leaveW hS (by rw [eT]; exact hk) hv hlocks
  exact ⟨fs, hr, hrun, hended, _, _, rfl, (by show Qv v T.heap T.vm locs; rw [eT]; exact q _ X.warmed), hE.1, hE.2.1, hE.2.2.1, hE.2.2.2.mono hc hs⟩
theorem own_fin {P : Outcome → State → Prop} {v : Option Value} {g : JFrame} (E : own_End e below m T v P) (st : ∀ fs, (∀ (f : JFrame) (acts : List Action), f.method = m → f.locked = none → f.entered = [] → (doReturn e (T.setTop f) acts v).1 = T.setFrames fs) → Steps p.tables e below (T.setTop g) (T.setFrames fs)) : own_Go p e below P T g := by
  obtain ⟨fs, hr, hrun, hended, q⟩ := E
  exact ⟨_, _, st fs hr, hrun, hended, q⟩
theorem own_some {t : FieldType} {v : Option Value} (hret : meth.sig.returnType = some t) : meth.sig.returnType = none → v = none := fun h => by rw [hret] at h; cases h
theorem own_finV {P : Outcome → State → Prop} (X : Stand p l e R s m args below meth c T locs cells slots) (hx : p.tables.exec = Jvm.exec) (hret : meth.sig.returnType = none) {pc : Nat} {Ls : Array Slot} (hd : decode c.code pc = .ok (.return_, 1)) (E : own_End e below m T none P) : own_Go p e below P T (mkF m pc Ls []) :=
  own_fin E (fun fs hr => X.returnOut hx hret hd hr)
theorem own_finX {P : Outcome → State → Prop} (X : Stand p l e R s m args below meth c T locs cells slots) (hx : p.tables.exec = Jvm.exec) {t : FieldType} (hret : meth.sig.returnType = some t) {pc : Nat} {Ls : Array Slot} {w : Value} {i : Instr} {rest : List Value} (hn : narrow t w = w)
    (hi : (i = .ireturn ∧ (t = .int ∨ t = .boolean ∨ t = .byte ∨ t = .char ∨ t = .short) ∧ ∃ z, w = .int z) ∨ (i = .lreturn ∧ t = .long ∧ ∃ z, w = .long z) ∨ (i = .dreturn ∧ t = .double ∧ ∃ z, w = .double z) ∨ (i = .freturn ∧ t = .float ∧ ∃ z, w = .float z) ∨ (i = .areturn ∧ t.isReference = true ∧ w.isRef = true))
    (hd : decode c.code pc = .ok (i, 1)) (E : own_End e below m T (some w) P) : own_Go p e below P T (mkF m pc Ls (w :: rest)) :=
  own_fin E (fun fs hr => retOut X hx hret hn hi hd hr)
theorem own_finI {P : Outcome → State → Prop} (X : Stand p l e R s m args below meth c T locs cells slots) (hx : p.tables.exec = Jvm.exec) (hret : meth.sig.returnType = some .int) {pc : Nat} {Ls : Array Slot} {z : Int32} {rest : List Value} (hd : decode c.code pc = .ok (.ireturn, 1)) (E : own_End e below m T (some (.int z)) P) : own_Go p e below P T (mkF m pc Ls (.int z :: rest)) :=
  own_finX X hx hret rfl (Or.inl ⟨rfl, Or.inl rfl, _, rfl⟩) hd E
theorem own_finL {P : Outcome → State → Prop} (X : Stand p l e R s m args below meth c T locs cells slots) (hx : p.tables.exec = Jvm.exec) (hret : meth.sig.returnType = some .long) {pc : Nat} {Ls : Array Slot} {z : Int64} {rest : List Value} (hd : decode c.code pc = .ok (.lreturn, 1)) (E : own_End e below m T (some (.long z)) P) : own_Go p e below P T (mkF m pc Ls (.long z :: rest)) :=
  own_finX X hx hret rfl (Or.inr (Or.inl ⟨rfl, rfl, _, rfl⟩)) hd E
theorem own_finD {P : Outcome → State → Prop} (X : Stand p l e R s m args below meth c T locs cells slots) (hx : p.tables.exec = Jvm.exec) (hret : meth.sig.returnType = some .double) {pc : Nat} {Ls : Array Slot} {z : UInt64} {rest : List Value} (hd : decode c.code pc = .ok (.dreturn, 1)) (E : own_End e below m T (some (.double z)) P) : own_Go p e below P T (mkF m pc Ls (.double z :: rest)) :=
  own_finX X hx hret rfl (Or.inr (Or.inr (Or.inl ⟨rfl, rfl, _, rfl⟩))) hd E
theorem own_finA {P : Outcome → State → Prop} (X : Stand p l e R s m args below meth c T locs cells slots) (hx : p.tables.exec = Jvm.exec) {t : FieldType} (hret : meth.sig.returnType = some t) (ht : t.isReference = true) {pc : Nat} {Ls : Array Slot} {w : Value} {rest : List Value} (hw : w.isRef = true) (hd : decode c.code pc = .ok (.areturn, 1)) (E : own_End e below m T (some w) P) : own_Go p e below P T (mkF m pc Ls (w :: rest)) :=
  own_finX X hx hret (by rcases ref_cases hw with rfl | ⟨z, rfl⟩ <;> cases t <;> first | rfl | cases ht) (Or.inr (Or.inr (Or.inr (Or.inr ⟨rfl, ht, hw⟩)))) hd E
theorem own_finZ {P : Outcome → State → Prop} (X : Stand p l e R s m args below meth c T locs cells slots) (hx : p.tables.exec = Jvm.exec) {t : FieldType} (hret : meth.sig.returnType = some t) (ht : t = .boolean ∨ t = .byte ∨ t = .char ∨ t = .short) {pc : Nat} {Ls : Array Slot} {z z' : Int32} {rest : List Value} (hz : nar t z = z') (hd : decode c.code pc = .ok (.ireturn, 1)) (E : own_End e below m T (some (.int z')) P) : own_Go p e below P T (mkF m pc Ls (.int z :: rest)) :=
  own_fin E (fun fs hr => by subst hz; exact retN X hx hret ht hd hr)
theorem own_callS (X : Stand p l e R s m args below meth c T locs cells slots) (hx : p.tables.exec = Jvm.exec) (hZ : Z.Warmed39 s.vm) {own : String} {index : Nat} {y : MethodName} {bytes : ByteArray} {maxL : Nat} {ret : Option FieldType} {rm : Room} {W : Nat} {Q : Option Value → Heap → List Loc → Prop} {argsL rest : List Value} {as' : Array Value}
    (hown : s.vm.findClass own = some m.cls) (w1 : (Cond.methodLink own index y).before a0 Z = true) (w2 : (Cond.static y).before a0 Z = true) (w3 : (Cond.initialized y.cls).before a0 Z = true) (w4 : (Cond.code y bytes maxL ret).before a0 Z = true) (hy : y.cls ≠ "java/lang/invoke/MethodHandle" ∧ y.cls ≠ "java/lang/invoke/VarHandle")
    (hM : own_Met l Z y bytes maxL ret [] rm h as' Q rm.cells rm.slots) (hf : rm.frames + 1 ≤ R.frames) (hl : W + (maxL + 11) + rm.locals ≤ R.locals) {g : JFrame} (hg : g.method = m) (hsz : g.locals.size = c.maxLocals) (has : argsL.toArray = as') (hlen : ∀ sig, parseMethodDescriptor y.desc = some sig → argsL.length = sig.parameters.length) (hstk : g.stack = argsL.reverse ++ rest) (hW : 2 * g.monitorRoom + (rest.map fun v => v.category).sum ≤ W)
    (hd : decode c.code g.pc = .ok (.invokestatic index, 3)) (eT : T.heap = h) (hc : cells + rm.cells ≤ R.cells) (hs : slots + rm.slots ≤ R.slots) :
    ∃ v T' L, Stand p l e R s m args below meth c T' (locs ++ L) (cells + rm.cells) (slots + rm.slots) ∧ Q v T'.heap L ∧ ∀ target, Steps p.tables e below (T'.setTop { g with pc := g.pc + 3, stack := v.toList ++ rest }) target → Steps p.tables e below (T.setTop g) target := by
  obtain ⟨v, _, ⟨T', L', k', n'⟩, -, X', ⟨Lc, hQ, l', y', z'⟩, st⟩ := Jvm.LawKit.callS X hx (y := y) hown (mvT hZ w1) (mvT hZ w2) (mvT hZ w3) (mvT hZ w4) hy (backOf (W := W) hM hZ w4 w3 hf hl) (g := g) hg hsz (argsL := argsL) (rest := rest) hlen hstk hW hd (fun _ _ => ⟨has, eT, hc, hs⟩)
  dsimp only [Pt.U, Pt.locs, Pt.cells, Pt.slots] at X' l' y' z' st hQ
  subst l' y' z'
  exact ⟨v, T', Lc, X', hQ, st⟩
theorem own_callI (X : Stand p l e R s m args below meth c T locs cells slots) (hx : p.tables.exec = Jvm.exec) (hZ : Z.Warmed39 s.vm) {own : String} {index : Nat} {y : MethodName} {bytes : ByteArray} {maxL : Nat} {rm : Room} {W : Nat} {Q : Option Value → Heap → List Loc → Prop} {a : Addr} {argsL rest : List Value} {as' : Array Value} (hyn : y.name = "<init>")
    (hown : s.vm.findClass own = some m.cls) (w1 : (Cond.methodLink own index y).before a0 Z = true) (w2 : (Cond.instanceMethod y).before a0 Z = true) (w3 : (Cond.initialized y.cls).before a0 Z = true) (w4 : (Cond.code y bytes maxL none).before a0 Z = true) (hy : y.cls ≠ "java/lang/invoke/MethodHandle" ∧ y.cls ≠ "java/lang/invoke/VarHandle")
    (hM : own_Met l Z y bytes maxL none [] rm h as' Q rm.cells rm.slots) (hf : rm.frames + 1 ≤ R.frames) (hl : W + (maxL + 11) + rm.locals ≤ R.locals) {g : JFrame} (hg : g.method = m) (hsz : g.locals.size = c.maxLocals) (has : (Value.ref a :: argsL).toArray = as') (hlen : ∀ sig, parseMethodDescriptor y.desc = some sig → argsL.length = sig.parameters.length) (hstk : g.stack = argsL.reverse ++ .ref a :: rest) (hW : 2 * g.monitorRoom + (rest.map fun v => v.category).sum ≤ W)
    (hd : decode c.code g.pc = .ok (.invokespecial index, 3)) (eT : T.heap = h) (hc : cells + rm.cells ≤ R.cells) (hs : slots + rm.slots ≤ R.slots) :
    ∃ v T' L, Stand p l e R s m args below meth c T' (locs ++ L) (cells + rm.cells) (slots + rm.slots) ∧ Q v T'.heap L ∧ ∀ target, Steps p.tables e below (T'.setTop { g with pc := g.pc + 3, stack := v.toList ++ rest }) target → Steps p.tables e below (T.setTop g) target := by
  obtain ⟨v, _, ⟨T', L', k', n'⟩, -, X', ⟨Lc, hQ, l', y', z'⟩, st⟩ := X.specialBack hx (y := y) hyn hown (mvT hZ w1) (mvT hZ w2) (mvT hZ w4) hy (backOf (W := W) hM hZ w4 w3 hf hl) (g := g) hg hsz (Steps.refl _) (a := a) (argsL := argsL) (rest := rest) hlen hstk hW hd (fun _ _ => ⟨has, eT, hc, hs⟩)
  dsimp only [Pt.U, Pt.locs, Pt.cells, Pt.slots] at X' l' y' z' st hQ
  subst l' y' z'
  exact ⟨v, T', Lc, X', hQ, fun t k => st.trans k⟩
theorem own_callV (X : Stand p l e R s m args below meth c T locs cells slots) (hx : p.tables.exec = Jvm.exec) (hZ : Z.Warmed39 s.vm) {own C : String} {index : Nat} {y z : MethodName} {bytes : ByteArray} {maxL : Nat} {ret : Option FieldType} {rm : Room} {W : Nat} {Q : Option Value → Heap → List Loc → Prop} {a : Addr} {argsL rest : List Value} {as' : Array Value}
    (hown : s.vm.findClass own = some m.cls) (w1 : (Cond.methodLink own index y).before a0 Z = true) (w2 : (Cond.declares y).before a0 Z = true) (hnf : NotFace s y) (wsel : (Cond.selects C y z).before a0 Z = true) (wi : (Cond.instanceMethod z).before a0 Z = true) (w3 : (Cond.initialized z.cls).before a0 Z = true) (w4 : (Cond.code z bytes maxL ret).before a0 Z = true) (hy : y.cls ≠ "java/lang/invoke/MethodHandle" ∧ y.cls ≠ "java/lang/invoke/VarHandle")
    (hM : own_Met l Z z bytes maxL ret [] rm h as' Q rm.cells rm.slots) (hf : rm.frames + 1 ≤ R.frames) (hl : W + (maxL + 11) + rm.locals ≤ R.locals) (E : Exa Z h a C) {g : JFrame} (hg : g.method = m) (hsz : g.locals.size = c.maxLocals) (has : (Value.ref a :: argsL).toArray = as') (hlen : ∀ sig, parseMethodDescriptor y.desc = some sig → argsL.length = sig.parameters.length) (hstk : g.stack = argsL.reverse ++ .ref a :: rest) (hW : 2 * g.monitorRoom + (rest.map fun v => v.category).sum ≤ W)
    (hd : decode c.code g.pc = .ok (.invokevirtual index, 3)) (eT : T.heap = h) (hc : cells + rm.cells ≤ R.cells) (hs : slots + rm.slots ≤ R.slots) :
    ∃ v T' L, Stand p l e R s m args below meth c T' (locs ++ L) (cells + rm.cells) (slots + rm.slots) ∧ Q v T'.heap L ∧ ∀ target, Steps p.tables e below (T'.setTop { g with pc := g.pc + 3, stack := v.toList ++ rest }) target → Steps p.tables e below (T.setTop g) target := by
  obtain ⟨cq, kq, qa, qb, qc⟩ := isOf hZ eT E
  obtain ⟨v, _, ⟨T', L', k', n'⟩, -, X', ⟨Lc, hQ, l', y', z'⟩, st⟩ := X.virtualBack hx (y := y) (z := z) hown (mvT hZ w1) (mvT hZ w2) hnf (mvT hZ wsel) (mvT hZ wi) hy (backOf (W := W) hM hZ w4 w3 hf hl) qa qc (g := g) hg hsz (Steps.refl _) (argsL := argsL) (rest := rest) hlen hstk hW hd (fun _ _ => ⟨has, eT, hc, hs⟩)
  dsimp only [Pt.U, Pt.locs, Pt.cells, Pt.slots] at X' l' y' z' st hQ
  subst l' y' z'
  exact ⟨v, T', Lc, X', hQ, fun t k => st.trans k⟩
theorem own_callP (X : Stand p l e R s m args below meth c T locs cells slots) (hx : p.tables.exec = Jvm.exec) (hZ : Z.Warmed39 s.vm) {own C : String} {index : Nat} {y : MethodName} {bytes : ByteArray} {maxL : Nat} {ret : Option FieldType} {rm : Room} {W : Nat} {Q : Option Value → Heap → List Loc → Prop} {a : Addr} {argsL rest : List Value} {as' : Array Value}
    (hown : s.vm.findClass own = some m.cls) (w1 : (Cond.methodLink own index y).before a0 Z = true) (wi : (Cond.instanceMethod y).before a0 Z = true) {kk : Nat} (wn : (Cond.instantiable y.cls kk).before a0 Z = true) (wp : (Cond.privateMethod y).before a0 Z = true) (w3 : (Cond.initialized y.cls).before a0 Z = true) (w4 : (Cond.code y bytes maxL ret).before a0 Z = true) (hy : y.cls ≠ "java/lang/invoke/MethodHandle" ∧ y.cls ≠ "java/lang/invoke/VarHandle")
    (hM : own_Met l Z y bytes maxL ret [] rm h as' Q rm.cells rm.slots) (hf : rm.frames + 1 ≤ R.frames) (hl : W + (maxL + 11) + rm.locals ≤ R.locals) (E : Exa Z h a C) {g : JFrame} (hg : g.method = m) (hsz : g.locals.size = c.maxLocals) (has : (Value.ref a :: argsL).toArray = as') (hlen : ∀ sig, parseMethodDescriptor y.desc = some sig → argsL.length = sig.parameters.length) (hstk : g.stack = argsL.reverse ++ .ref a :: rest) (hW : 2 * g.monitorRoom + (rest.map fun v => v.category).sum ≤ W)
    (hd : decode c.code g.pc = .ok (.invokevirtual index, 3)) (eT : T.heap = h) (hc : cells + rm.cells ≤ R.cells) (hs : slots + rm.slots ≤ R.slots) :
    ∃ v T' L, Stand p l e R s m args below meth c T' (locs ++ L) (cells + rm.cells) (slots + rm.slots) ∧ Q v T'.heap L ∧ ∀ target, Steps p.tables e below (T'.setTop { g with pc := g.pc + 3, stack := v.toList ++ rest }) target → Steps p.tables e below (T.setTop g) target := by
  obtain ⟨cq, q1, q2⟩ := E.cell
  obtain ⟨ci, ki, hi1, hi2, -, hi4, -⟩ := Cond.instantiable_spec (mvT (args := args) hZ wn)
  have hsel : (Cond.selects y.cls y y).before args s = true := selects_self_of_private hi1 hi2 (by simp only [Bool.or_eq_false_iff] at hi4; exact hi4.1) (Cond.privateMethod_at (mvP hZ wp (args := #[]))) (mvT hZ wi) hy
  obtain ⟨v, _, ⟨T', L', k', n'⟩, -, X', ⟨Lc, hQ, l', y', z'⟩, st⟩ := X.privateBack hx (y := y) hown (mvT hZ w1) (mvT hZ wi) hsel (Cond.privateMethod_at (mvP hZ wp (args := #[]))) (mvT hZ w4) hy (backOf (W := W) hM hZ w4 w3 hf hl) (g := g) hg hsz (Steps.refl _) (a := a) (by rw [eT]; exact q1) q2 (argsL := argsL) (rest := rest) hlen hstk hW hd (fun _ _ => ⟨has, eT, hc, hs⟩)
  dsimp only [Pt.U, Pt.locs, Pt.cells, Pt.slots] at X' l' y' z' st hQ
  subst l' y' z'
  exact ⟨v, T', Lc, X', hQ, fun t k => st.trans k⟩
end Own

theorem own_h {a0 : Array Value} {Z : State} (hw : ∀ d ∈ tables_1, d.before a0 Z = true) (i : Nat) {d : Jvm.Cond} (h : tables_1[i]? = some d) : d.before a0 Z = true := hw d (List.mem_of_getElem? h)
theorem own_at {T : State} {h : Heap} {a : Addr} {c : Cell} (eT : T.heap = h) (q : h[a]? = some c) : T.heap[a]? = some c := by rw [eT]; exact q
def own_b (b : Bool) : Int32 := cond b 1 0
theorem own_b0 {b : Bool} (h : b = false) : own_b b = 0 := by subst h; rfl
theorem own_b1 {b : Bool} (h : ¬ b = false) : ¬ own_b b = 0 := by cases b; exact absurd rfl h; decide
theorem own_narb (b : Bool) : nar .boolean (own_b b) = own_b b := by cases b <;> rfl
theorem own_lclt {a b : Int64} (h : a < b) : lcmpW a b < 0 := by rw [lcW]; exact (lc_lt a b).mpr h
theorem own_lcltN {a b : Int64} (h : ¬ a < b) : ¬ lcmpW a b < 0 := fun q => by rw [lcW] at q; exact h ((lc_lt a b).mp q)
theorem own_lcgt {a b : Int64} (h : b < a) : 0 < lcmpW a b := by rw [lcW]; exact (lc_gt a b).mpr h
theorem own_lcgtN {a b : Int64} (h : ¬ b < a) : ¬ 0 < lcmpW a b := fun q => by rw [lcW] at q; exact h ((lc_gt a b).mp q)
theorem own_lceq {a b : Int64} (h : a = b) : lcmpW a b = 0 := by rw [lcW]; exact (lc_eq a b).mpr h
theorem own_lceqN {a b : Int64} (h : ¬ a = b) : ¬ lcmpW a b = 0 := fun q => by rw [lcW] at q; exact h ((lc_eq a b).mp q)
theorem own_insKeep {Z : State} {h h' : Heap} {a : Addr} {C : String} {bo : Bool} {ws : List Addr} (F : Ins Z h a C bo) (K : Keep h h' ws) : Ins Z h' a C bo := by
  obtain ⟨cell, cT, h1, h2, h3⟩ := F
  obtain ⟨c', q1, q2, q3, -⟩ := K.2.2 _ _ h1
  exact ⟨c', cT, q1, h2, by rw [q2, q3]; exact h3⟩
theorem own_staKeep {Z : State} {h h' : Heap} {C n d : String} {v : Value} (F : Sta Z h C n d v) (K : Keep h h' []) : Sta Z h' C n d v := by
  obtain ⟨cf, i, k, f, st, cell, h1, h2, h3, h4, h5, r⟩ := F
  exact ⟨cf, i, k, f, st, cell, h1, h2, h3, h4, K.2.1 _ _ h5 nin0, r⟩
theorem own_narR {t : FieldType} {w : Value} (hw : w.isRef = true) : narrow t w = w := by rcases ref_cases hw with rfl | ⟨z, rfl⟩ <;> cases t <;> rfl
theorem own_fitR {n : String} {w : Value} (hw : w.isRef = true) : fits (.object n) w = true := by rcases ref_cases hw with rfl | ⟨z, rfl⟩ <;> rfl
theorem own_len {p : Program} {l : Launch} {e : Env} {R : Room} {s : State} {m : MethodId} {args : Array Value} {below : List Frame} {meth : Method} {c : Code} {T : State} {locs : List Loc} {cells slots : Nat} {Z : State} {h : Heap} (X : Stand p l e R s m args below meth c T locs cells slots) (hx : p.tables.exec = Jvm.exec) (hZ : Z.Warmed39 s.vm) (eT : T.heap = h) {a : Addr} {cl : Cell} {ty : FieldType} {z : Int32} (A : Arr Z h a cl ty) (S : cl.slots.size = z.toNatClampNeg) (hz : ¬ z < 0)
    {g : JFrame} (hg : g.method = m) {rest : List Value} (hs : g.stack = .ref a :: rest) (hd : decode c.code g.pc = .ok (.arraylength, 1)) {target : State} (k : Steps p.tables e below (T.setTop { g with pc := g.pc + 1, stack := .int z :: rest }) target) : Steps p.tables e below (T.setTop g) target := by
  refine X.arraylength hx (by rw [eT]; exact A.1) (State.isArrayOf_alike hZ.alike A.2.1) (g := g) hg hs hd _ ?_
  rw [len_of S hz]
  exact k
section OwnW
variable {p : Program} {l : Launch} {e : Env} {R : Room} {s : State} {vm0 : Vm} {m : MethodId} {args : Array Value} {below : List Frame} {meth : Method} {c : Code} {T : State} {locs : List Loc} {cells slots : Nat} {Z : State} {a0 : Array Value} {h : Heap}
theorem own_backS {y : MethodName} {bytes : ByteArray} {maxL : Nat} {ret : Option FieldType} {rm : Room} {len W : Nat} {J : Vm → Prop} {as' : Array Value} {Q : Option Value → Heap → Vm → List Loc → Prop} (hM : own_MetW l Z y bytes maxL ret [] rm h J as' Q rm.cells rm.slots)
    (hZ : Z.Warmed39 s.vm) (wc : (Cond.code y bytes maxL ret).before a0 Z = true) (wz : (Cond.initialized y.cls).before a0 Z = true) (hf : rm.frames + 1 ≤ R.frames) (hl : W + (maxL + 11) + rm.locals ≤ R.locals) :
    BackS l R p e below s args y len W (fun A a => a = as' ∧ A.U.heap = h ∧ J A.U.vm ∧ A.cells + rm.cells ≤ R.cells ∧ A.slots + rm.slots ≤ R.slots)
      (fun A _ v B => ∃ L, Q v B.U.heap B.U.vm L ∧ B.locs = A.locs ++ L ∧ B.cells = A.cells + rm.cells ∧ B.slots = A.slots + rm.slots) :=
  BackS.of_freeW (bytes := bytes) (maxL := maxL) (ret := ret) (E := fun _ _ o t L k n => k = rm.cells ∧ n = rm.slots ∧ ∃ v, o = .returned v ∧ Q v t.heap t.vm L) hM hf hl
    (fun m meth c A a Y hp => have hU : Z.Warmed39 A.U.vm := wtrans hZ Y.warmed
      ⟨by show (Cond.and _ .tt).before a A.U = true; rw [Cond.before_and, mv hU wc]; rfl, mv hU wc, mv hU wz, hp.2.2.2.1, hp.2.2.2.2⟩)
    (fun m meth c A a g mk Y hp => ⟨hp.1, wtrans hZ Y.warmed, hp.2.1, hp.2.2.1⟩) (fun _ _ _ _ _ _ _ _ _ => trivial)
    (fun _ _ _ _ ⟨v, L, h1, h2, h3⟩ => ⟨L, _, _, h3, rfl, rfl, v, h1, h2⟩)
    (fun m meth c A a g mk v t L k n Y hp _ _ ⟨e1, e2, v', e3, e4⟩ => by cases e3; subst e1 e2; exact ⟨L, e4, rfl, rfl, rfl⟩)
theorem own_callSW (X : Stand p l e R (s.setVm vm0) m args below meth c T locs cells slots) (hx : p.tables.exec = Jvm.exec) (hZ : Z.Warmed39 vm0) {k0 : Nat} (hS : s.Since vm0 k0) (hk : k0 ≤ h.size) {own : String} {index : Nat} {y : MethodName} {bytes : ByteArray} {maxL : Nat} {ret : Option FieldType} {rm : Room} {W : Nat} {J : Vm → Prop} {Q : Option Value → Heap → Vm → List Loc → Prop} {argsL rest : List Value} {as' : Array Value}
    (hown : vm0.findClass own = some m.cls) (w1 : (Cond.methodLink own index y).before a0 Z = true) (w2 : (Cond.static y).before a0 Z = true) (w3 : (Cond.initialized y.cls).before a0 Z = true) (w4 : (Cond.code y bytes maxL ret).before a0 Z = true) (hy : y.cls ≠ "java/lang/invoke/MethodHandle" ∧ y.cls ≠ "java/lang/invoke/VarHandle")
    (hM : own_MetW l Z y bytes maxL ret [] rm h J as' Q rm.cells rm.slots) (hJ : ∀ vm', (s.setVm vm0).WarmedH vm' → J vm') (hf : rm.frames + 1 ≤ R.frames) (hl : W + (maxL + 11) + rm.locals ≤ R.locals) {g : JFrame} (hg : g.method = m) (hsz : g.locals.size = c.maxLocals) (has : argsL.toArray = as') (hlen : ∀ sig, parseMethodDescriptor y.desc = some sig → argsL.length = sig.parameters.length) (hstk : g.stack = argsL.reverse ++ rest) (hW : 2 * g.monitorRoom + (rest.map fun v => v.category).sum ≤ W)
    (hd : decode c.code g.pc = .ok (.invokestatic index, 3)) (eT : T.heap = h) (hc : cells + rm.cells ≤ R.cells) (hs : slots + rm.slots ≤ R.slots) :
    ∃ v T' L, Stand p l e R (s.setVm T'.vm) m args below meth c T' (locs ++ L) (cells + rm.cells) (slots + rm.slots) ∧ Q v T'.heap T'.vm L ∧ s.Since T'.vm T'.heap.size ∧ h.size ≤ T'.heap.size ∧ Z.Warmed39 (s.setVm T'.vm).vm ∧ (s.setVm T'.vm).vm.findClass own = some m.cls ∧ ∀ target, Steps p.tables e below (T'.setTop { g with pc := g.pc + 3, stack := v.toList ++ rest }) target → Steps p.tables e below (T.setTop g) target := by
  obtain ⟨v, _, ⟨T', L', k', n'⟩, -, X', hS', hg', ⟨Lc, hQ, l', y', z'⟩, st⟩ := callSS X hx (y := y) hown (mvT hZ w1) (mvT hZ w2) (mvT hZ w3) (mvT hZ w4) hy (own_backS (W := W) hM hZ w4 w3 hf hl) (g := g) hg hsz (argsL := argsL) (rest := rest) hlen hstk hW hd (fun vm' hv => ⟨has, eT, hJ vm' hv, hc, hs⟩)
  dsimp only [Pt.U, Pt.locs, Pt.cells, Pt.slots] at X' l' y' z' st hQ hS' hg'
  subst l' y' z'
  rw [eT] at hg'
  exact ⟨v, T', Lc, X', hQ, hS.trans hS' (Nat.le_trans hk hg'), hg', State.Warmed39.trans (t := s.setVm vm0) hZ hS'.1, by rw [show (s.setVm T'.vm).vm = T'.vm from rfl, hS'.1.alike.findClass]; exact hown, fun t k => st.trans k⟩
theorem own_callIW (X : Stand p l e R (s.setVm vm0) m args below meth c T locs cells slots) (hx : p.tables.exec = Jvm.exec) (hZ : Z.Warmed39 vm0) {k0 : Nat} (hS : s.Since vm0 k0) (hk : k0 ≤ h.size) {own : String} {index : Nat} {y : MethodName} {bytes : ByteArray} {maxL : Nat} {rm : Room} {W : Nat} {J : Vm → Prop} {Q : Option Value → Heap → Vm → List Loc → Prop} {a : Addr} {argsL rest : List Value} {as' : Array Value} (hyn : y.name = "<init>")
    (hown : vm0.findClass own = some m.cls) (w1 : (Cond.methodLink own index y).before a0 Z = true) (w2 : (Cond.instanceMethod y).before a0 Z = true) (w3 : (Cond.initialized y.cls).before a0 Z = true) (w4 : (Cond.code y bytes maxL none).before a0 Z = true) (hy : y.cls ≠ "java/lang/invoke/MethodHandle" ∧ y.cls ≠ "java/lang/invoke/VarHandle")
    (hM : own_MetW l Z y bytes maxL none [] rm h J as' Q rm.cells rm.slots) (hJ : ∀ vm', (s.setVm vm0).WarmedH vm' → J vm') (hf : rm.frames + 1 ≤ R.frames) (hl : W + (maxL + 11) + rm.locals ≤ R.locals) {g : JFrame} (hg : g.method = m) (hsz : g.locals.size = c.maxLocals) (has : (Value.ref a :: argsL).toArray = as') (hlen : ∀ sig, parseMethodDescriptor y.desc = some sig → argsL.length = sig.parameters.length) (hstk : g.stack = argsL.reverse ++ .ref a :: rest) (hW : 2 * g.monitorRoom + (rest.map fun v => v.category).sum ≤ W)
    (hd : decode c.code g.pc = .ok (.invokespecial index, 3)) (eT : T.heap = h) (hc : cells + rm.cells ≤ R.cells) (hs : slots + rm.slots ≤ R.slots) :
    ∃ v T' L, Stand p l e R (s.setVm T'.vm) m args below meth c T' (locs ++ L) (cells + rm.cells) (slots + rm.slots) ∧ Q v T'.heap T'.vm L ∧ s.Since T'.vm T'.heap.size ∧ h.size ≤ T'.heap.size ∧ Z.Warmed39 (s.setVm T'.vm).vm ∧ (s.setVm T'.vm).vm.findClass own = some m.cls ∧ ∀ target, Steps p.tables e below (T'.setTop { g with pc := g.pc + 3, stack := v.toList ++ rest }) target → Steps p.tables e below (T.setTop g) target := by
  obtain ⟨v, _, ⟨T', L', k', n'⟩, -, X', hS', hg', ⟨Lc, hQ, l', y', z'⟩, st⟩ := X.specialBackS hx (y := y) hyn hown (mvT hZ w1) (mvT hZ w2) (mvT hZ w4) hy (own_backS (W := W) hM hZ w4 w3 hf hl) (g := g) hg hsz (Steps.refl _) (a := a) (argsL := argsL) (rest := rest) hlen hstk hW hd (fun vm' hv => ⟨has, eT, hJ vm' hv, hc, hs⟩)
  dsimp only [Pt.U, Pt.locs, Pt.cells, Pt.slots] at X' l' y' z' st hQ hS' hg'
  subst l' y' z'
  rw [eT] at hg'
  exact ⟨v, T', Lc, X', hQ, hS.trans hS' (Nat.le_trans hk hg'), hg', State.Warmed39.trans (t := s.setVm vm0) hZ hS'.1, by rw [show (s.setVm T'.vm).vm = T'.vm from rfl, hS'.1.alike.findClass]; exact hown, fun t k => st.trans k⟩
theorem own_callVW (X : Stand p l e R (s.setVm vm0) m args below meth c T locs cells slots) (hx : p.tables.exec = Jvm.exec) (hZ : Z.Warmed39 vm0) {k0 : Nat} (hS : s.Since vm0 k0) (hk : k0 ≤ h.size) {own C : String} {index : Nat} {y z : MethodName} {bytes : ByteArray} {maxL : Nat} {ret : Option FieldType} {rm : Room} {W : Nat} {J : Vm → Prop} {Q : Option Value → Heap → Vm → List Loc → Prop} {a : Addr} {argsL rest : List Value} {as' : Array Value}
    (hown : vm0.findClass own = some m.cls) (w1 : (Cond.methodLink own index y).before a0 Z = true) (w2 : (Cond.declares y).before a0 Z = true) (hnf : NotFace (s.setVm vm0) y) (wsel : (Cond.selects C y z).before a0 Z = true) (wi : (Cond.instanceMethod z).before a0 Z = true) (w3 : (Cond.initialized z.cls).before a0 Z = true) (w4 : (Cond.code z bytes maxL ret).before a0 Z = true) (hy : y.cls ≠ "java/lang/invoke/MethodHandle" ∧ y.cls ≠ "java/lang/invoke/VarHandle")
    (hM : own_MetW l Z z bytes maxL ret [] rm h J as' Q rm.cells rm.slots) (hJ : ∀ vm', (s.setVm vm0).WarmedH vm' → J vm') (hf : rm.frames + 1 ≤ R.frames) (hl : W + (maxL + 11) + rm.locals ≤ R.locals) (E : Exa Z h a C) {g : JFrame} (hg : g.method = m) (hsz : g.locals.size = c.maxLocals) (has : (Value.ref a :: argsL).toArray = as') (hlen : ∀ sig, parseMethodDescriptor y.desc = some sig → argsL.length = sig.parameters.length) (hstk : g.stack = argsL.reverse ++ .ref a :: rest) (hW : 2 * g.monitorRoom + (rest.map fun v => v.category).sum ≤ W)
    (hd : decode c.code g.pc = .ok (.invokevirtual index, 3)) (eT : T.heap = h) (hc : cells + rm.cells ≤ R.cells) (hs : slots + rm.slots ≤ R.slots) :
    ∃ v T' L, Stand p l e R (s.setVm T'.vm) m args below meth c T' (locs ++ L) (cells + rm.cells) (slots + rm.slots) ∧ Q v T'.heap T'.vm L ∧ s.Since T'.vm T'.heap.size ∧ h.size ≤ T'.heap.size ∧ Z.Warmed39 (s.setVm T'.vm).vm ∧ (s.setVm T'.vm).vm.findClass own = some m.cls ∧ ∀ target, Steps p.tables e below (T'.setTop { g with pc := g.pc + 3, stack := v.toList ++ rest }) target → Steps p.tables e below (T.setTop g) target := by
  obtain ⟨cq, kq, qa, qb, qc⟩ := isOf (s := s.setVm vm0) hZ eT E
  obtain ⟨v, _, ⟨T', L', k', n'⟩, -, X', hS', hg', ⟨Lc, hQ, l', y', z'⟩, st⟩ := X.virtualBackS hx (y := y) (z := z) hown (mvT hZ w1) (mvT hZ w2) hnf (mvT hZ wsel) (mvT hZ wi) hy (own_backS (W := W) hM hZ w4 w3 hf hl) qa qc (g := g) hg hsz (Steps.refl _) (argsL := argsL) (rest := rest) hlen hstk hW hd (fun vm' hv => ⟨has, eT, hJ vm' hv, hc, hs⟩)
  dsimp only [Pt.U, Pt.locs, Pt.cells, Pt.slots] at X' l' y' z' st hQ hS' hg'
  subst l' y' z'
  rw [eT] at hg'
  exact ⟨v, T', Lc, X', hQ, hS.trans hS' (Nat.le_trans hk hg'), hg', State.Warmed39.trans (t := s.setVm vm0) hZ hS'.1, by rw [show (s.setVm T'.vm).vm = T'.vm from rfl, hS'.1.alike.findClass]; exact hown, fun t k => st.trans k⟩
end OwnW
theorem own_wS {a0 : Array Value} {Z : State} (hw : ∀ d ∈ tables_1, d.before a0 Z = true) : ∀ a ∈ Bundle.stringAtoms, a.before a0 Z = true := fun d hd => by
  simp only [Bundle.stringAtoms, List.mem_cons, List.not_mem_nil, or_false] at hd
  rcases hd with rfl | rfl | rfl | rfl | rfl | rfl | rfl
  · exact own_h hw 18 rfl
  · exact own_h hw 19 rfl
  · exact own_h hw 20 rfl
  · exact own_h hw 21 rfl
  · exact own_h hw 22 rfl
  · exact own_h hw 23 rfl
  · exact own_h hw 24 rfl
theorem own_eqI {args : Array Value} {s : State} {a b : Term} {z k : Int32} (hx : a.eval args s none [] s = some (.int z)) (hy : b.eval args s none [] s = some (.int k)) (h : (Jvm.Cond.eq a b).value args s none s [] = some true) : z = k := by
  simpa [Cond.value, hx, hy] using h
theorem own_fldAt {args : Array Value} {s : State} {t : Term} {a : Addr} {Cc n d : String} {k : Int32} (h : (Jvm.Cond.eq (.field t Cc n d) (.int k)).value args s none s [] = some true) (ht : t.eval args s none [] s = some (.ref a)) : Fld s s.heap a Cc n d (.int k) := by
  obtain ⟨x, y, hx, hy, k1, k2⟩ := cmp_v (Or.inl h)
  have hy' : some (Value.int k) = some y := hy
  cases hy'
  obtain ⟨z, rfl⟩ := k2
  have e : z = k := own_eqI hx hy h
  subst e
  exact Fld.start ((fld_at ht).symm.trans hx)
theorem own_fldR {args : Array Value} {s : State} {t : Term} {a b : Addr} {Cc n d : String} (ht : t.eval args s none [] s = some (.ref a)) (hx : (Term.field t Cc n d).eval args s none [] s = some (.ref b)) : Fld s s.heap a Cc n d (.ref b) := Fld.start ((fld_at ht).symm.trans hx)
theorem own_elemAt {args : Array Value} {s : State} {t u : Term} {a o : Addr} {cl : Cell} {i : Int32} {j : Nat} (h : (Jvm.Cond.eq (.elem t (.int i)) u).value args s none s [] = some true) (ht : t.eval args s none [] s = some (.ref a)) (hu : u.eval args s none [] s = some (.ref o)) (hc : s.heap[a]? = some cl) (hij : i.toNatClampNeg = j) : cl.slots[j]? = some (.ref o) := by
  obtain ⟨x, y, hx, hy, k1, k2⟩ := cmp_v (Or.inl h)
  cases hu.symm.trans hy
  have q := gotT (eq_R hx hy k2.2 rfl) h
  subst q
  have := (elem_in hx ht rfl hc).2
  rw [hij] at this
  exact this
theorem own_elemI {args : Array Value} {s : State} {t : Term} {a : Addr} {cl : Cell} {i k : Int32} {j : Nat} (h : (Jvm.Cond.eq (.elem t (.int i)) (.int k)).value args s none s [] = some true) (ht : t.eval args s none [] s = some (.ref a)) (hc : s.heap[a]? = some cl) (hij : i.toNatClampNeg = j) : cl.slots[j]? = some (.int k) := by
  obtain ⟨x, y, hx, hy, k1, k2⟩ := cmp_v (Or.inl h)
  have hy' : some (Value.int k) = some y := hy
  cases hy'
  obtain ⟨z, rfl⟩ := k2
  have e : z = k := own_eqI hx hy h
  subst e
  have := (elem_in hx ht rfl hc).2
  rw [hij] at this
  exact this
theorem own_lenAt {args : Array Value} {s : State} {t : Term} {a : Addr} {cl : Cell} {ty : FieldType} {k : Int32} (h : (Jvm.Cond.eq (.length t) (.int k)).value args s none s [] = some true) (ht : t.eval args s none [] s = some (.ref a)) (A : Arr s s.heap a cl ty) : cl.slots.size < 2 ^ 31 ∧ cl.slots.size.toInt32 = k := by
  obtain ⟨x, y, hx, hy, k1, k2⟩ := cmp_v (Or.inl h)
  have hy' : some (Value.int k) = some y := hy
  cases hy'
  obtain ⟨z, rfl⟩ := k2
  have e : z = k := own_eqI hx hy h
  subst e
  have ha := Arr.fin (U := s) (Vm.Alike.refl _) A
  simp only [Term.eval, ht, ha, Option.bind_eq_bind, Option.bind_some] at hx
  split at hx
  · rename_i q; exact ⟨q, Value.int.inj (Option.some.inj hx)⟩
  · cases hx
theorem own_staI {args : Array Value} {s : State} {Cc n d : String} (h : (Jvm.Cond.isInt (.static Cc n d)).value args s none s [] = some true) (hi : (Jvm.Cond.initializedFor Cc n d).before args s = true) : ∃ z, Sta s s.heap Cc n d (.int z) ∧ (Term.static Cc n d).eval args s none [] s = some (.int z) := by
  obtain ⟨z, e⟩ := is_v h
  exact ⟨z, Sta.start e (Or.inl hi), e⟩
theorem own_not0 {args : Array Value} {s : State} {t : Term} {z k : Int32} (e : t.eval args s none [] s = some (.int z)) (h : (Jvm.Cond.not (.eq t (.int k))).value args s none s [] = some true) : ¬ z = k := fun q => by
  subst q
  have h2 := not_v h
  simp [Cond.value, e, Term.eval] at h2
theorem own_staR {args : Array Value} {s : State} {Cc n d : String} (h : (Jvm.Cond.isRef (.static Cc n d)).value args s none s [] = some true) (hi : (Jvm.Cond.initializedFor Cc n d).before args s = true) : ∃ z, Sta s s.heap Cc n d z ∧ z.isRef = true := by
  obtain ⟨z, e, r⟩ := isR_v h
  exact ⟨z, Sta.start e (Or.inl hi), r⟩
theorem own_arvLen {Z : State} {h : Heap} {b : Addr} {k k' : ClassId} {ty ty' : FieldType} {z z' : Int32} {vs vs' : List Value} {d d' : Value} (A : Arv Z h b k ty z vs d) (B : Arv Z h b k' ty' z' vs' d') : z.toNatClampNeg = z'.toNatClampNeg := by
  obtain ⟨c1, A1, -, S1, -⟩ := A
  obtain ⟨c2, A2, -, S2, -⟩ := B
  have e : c1 = c2 := Option.some.inj (A1.1.symm.trans A2.1)
  subst e
  exact S1.symm.trans S2
theorem own_fldEq {Z : State} {h : Heap} {a : Addr} {Cc n d : String} {v w : Value} (F : Fld Z h a Cc n d v) (G : Fld Z h a Cc n d w) : v = w := Decidable.byContradiction fun q => (Fld.ne F G q) rfl
abbrev own_y0 : MethodName := ⟨"java/lang/StringLatin1", "equals", "([B[B)Z"⟩
theorem own_pn0 : plainName "java/lang/StringLatin1" = true := by first | (simp [plainName, overriddenIn]; done) | decide +kernel
theorem own_dlqL_0 : decode jdk_43_method_13_code 0 = .ok (.aload_n 0, 1) := by decide +kernel
theorem own_dlqL_1 : decode jdk_43_method_13_code 1 = .ok (.arraylength, 1) := by decide +kernel
theorem own_dlqL_2 : decode jdk_43_method_13_code 2 = .ok (.aload_n 1, 1) := by decide +kernel
theorem own_dlqL_3 : decode jdk_43_method_13_code 3 = .ok (.arraylength, 1) := by decide +kernel
theorem own_dlqL_4 : decode jdk_43_method_13_code 4 = .ok (.if_icmp .ne 30, 3) := by decide +kernel
theorem own_dlqL_34 : decode jdk_43_method_13_code 34 = .ok (.iconst 0, 1) := by decide +kernel
theorem own_dlqL_35 : decode jdk_43_method_13_code 35 = .ok (.ireturn, 1) := by decide +kernel
theorem own_eflqL (m : MethodId) (x0 : Addr) (x1 : Addr) : entryFrame m #[(.ref x0), (.ref x1)] 3 = mkF m 0 #[rv x0, rv x1, u_] [] := by first | (simp [entryFrame, mkF, argsToLocals, Value.category]; done) | rfl
def own_QlqL (Z : State) (a1 : Addr) (a2 : Addr) (k1 : ClassId) (k2 : ClassId) (h0 : Heap) (n0 : Nat) : Option Value → Heap → List Loc → Prop := fun v h L => v = some (.int 0) ∧ Fr n0 L ∧ h = h0
def own_RlqL : Room := { frames := 0, cells := 0, slots := 0, locals := 0 }
set_option maxRecDepth 65536 in
set_option maxHeartbeats 40000000 in
theorem own_rmlqL (l : Launch) (Z : State) (a0 : Array Value) (hw : ∀ d ∈ tables_1, d.before a0 Z = true) (ws : List Jvm.Cond) (a1 : Addr) (a2 : Addr) (k1 : ClassId) (k2 : ClassId) (h0 : Heap) (n0 : Nat) (Z0 : n0 ≤ h0.size) (A1 : Arv Z h0 a1 k1 .byte (6 : Int32) [(.int 108), (.int 105), (.int 110), (.int 116), (.int 101), (.int 108)] (.int (0 : Int32))) (A2 : Arv Z h0 a2 k2 .byte (8 : Int32) [(.int 115), (.int 116), (.int 97), (.int 110), (.int 100), (.int 97), (.int 114), (.int 100)] (.int (0 : Int32))) :
    own_Met l Z own_y0 jdk_43_method_13_code 3 (some .boolean) ws own_RlqL h0 #[(.ref a1), (.ref a2)] (own_QlqL Z a1 a2 k1 k2 h0 n0) own_RlqL.cells own_RlqL.slots := by
  refine own_start (plainFor_of_name own_pn0) ?_
  intro p e s m below meth c s₁ X0 hx hZ hby hml hret hlk hown hnm e0
  have hown : s.vm.findClass "java/lang/StringLatin1" = some m.cls := hown
  have hml : c.maxLocals = 3 := hml
  have N0 := Fr.nil n0
  refine own_cast (own_eflqL m a1 a2) ?_
  refine own_s s₁ (mkF m 1 #[rv a1, rv a2, u_] [(.ref a1)]) (fun _ k => XS.aloadN X0.here hx rfl (hb hby own_dlqL_0) rfl rfl k) ?_
  obtain ⟨cl1, Ar1, q1, S1, Nn1, H1, G1⟩ := id A1
  refine own_s s₁ (mkF m 3 #[rv a1, rv a2, u_] [(.ref a2), (.int 6)]) (fun _ k => own_len X0 hx hZ e0 Ar1 S1 Nn1 (g := (mkF m 1 #[rv a1, rv a2, u_] [(.ref a1)])) rfl rfl (hb hby own_dlqL_1) (XS.aloadN X0.here hx rfl (hb hby own_dlqL_2) rfl rfl k)) ?_
  obtain ⟨cl2, Ar2, q2, S2, Nn2, H2, G2⟩ := id A2
  refine own_s s₁ (mkF m 35 #[rv a1, rv a2, u_] [(.int 0)]) (fun _ k => own_len X0 hx hZ e0 Ar2 S2 Nn2 (g := (mkF m 3 #[rv a1, rv a2, u_] [(.ref a2), (.int 6)])) rfl rfl (hb hby own_dlqL_3) (XS.icmpYes X0.here hx rfl (pc0 := 4) (pc' := 34) rfl (hb hby own_dlqL_4) rfl (feq (by decide : ¬ ((6 : Int32) = (8 : Int32)))).2 (by decide) (by decide) (XS.iconst X0.here hx rfl (hb hby own_dlqL_34) k))) ?_
  exact own_finZ X0 hx (t := .boolean) hret (by simp) (z' := (0 : Int32)) rfl (hb hby own_dlqL_35) (own_end (Qv := (own_QlqL Z a1 a2 k1 k2 h0 n0)) X0 (own_some hret) hlk (by decide) (by decide) e0 ⟨rfl, N0, rfl⟩)
theorem own_dlqS_0 : decode jdk_43_method_13_code 0 = .ok (.aload_n 0, 1) := by decide +kernel
theorem own_dlqS_1 : decode jdk_43_method_13_code 1 = .ok (.arraylength, 1) := by decide +kernel
theorem own_dlqS_2 : decode jdk_43_method_13_code 2 = .ok (.aload_n 1, 1) := by decide +kernel
theorem own_dlqS_3 : decode jdk_43_method_13_code 3 = .ok (.arraylength, 1) := by decide +kernel
theorem own_dlqS_4 : decode jdk_43_method_13_code 4 = .ok (.if_icmp .ne 30, 3) := by decide +kernel
theorem own_dlqS_7 : decode jdk_43_method_13_code 7 = .ok (.iconst 0, 1) := by decide +kernel
theorem own_dlqS_8 : decode jdk_43_method_13_code 8 = .ok (.istore_n 2, 1) := by decide +kernel
theorem own_dlqS_9 : decode jdk_43_method_13_code 9 = .ok (.iload_n 2, 1) := by decide +kernel
theorem own_dlqS_10 : decode jdk_43_method_13_code 10 = .ok (.aload_n 0, 1) := by decide +kernel
theorem own_dlqS_11 : decode jdk_43_method_13_code 11 = .ok (.arraylength, 1) := by decide +kernel
theorem own_dlqS_12 : decode jdk_43_method_13_code 12 = .ok (.if_icmp .ge 20, 3) := by decide +kernel
theorem own_dlqS_15 : decode jdk_43_method_13_code 15 = .ok (.aload_n 0, 1) := by decide +kernel
theorem own_dlqS_16 : decode jdk_43_method_13_code 16 = .ok (.iload_n 2, 1) := by decide +kernel
theorem own_dlqS_17 : decode jdk_43_method_13_code 17 = .ok (.baload, 1) := by decide +kernel
theorem own_dlqS_18 : decode jdk_43_method_13_code 18 = .ok (.aload_n 1, 1) := by decide +kernel
theorem own_dlqS_19 : decode jdk_43_method_13_code 19 = .ok (.iload_n 2, 1) := by decide +kernel
theorem own_dlqS_20 : decode jdk_43_method_13_code 20 = .ok (.baload, 1) := by decide +kernel
theorem own_dlqS_21 : decode jdk_43_method_13_code 21 = .ok (.if_icmp .eq 5, 3) := by decide +kernel
theorem own_dlqS_26 : decode jdk_43_method_13_code 26 = .ok (.iinc 2 1, 3) := by decide +kernel
theorem own_dlqS_29 : decode jdk_43_method_13_code 29 = .ok (.goto (-20), 3) := by decide +kernel
theorem own_dlqS_32 : decode jdk_43_method_13_code 32 = .ok (.iconst 1, 1) := by decide +kernel
theorem own_dlqS_33 : decode jdk_43_method_13_code 33 = .ok (.ireturn, 1) := by decide +kernel
theorem own_eflqS (m : MethodId) (x0 : Addr) (x1 : Addr) : entryFrame m #[(.ref x0), (.ref x1)] 3 = mkF m 0 #[rv x0, rv x1, u_] [] := by first | (simp [entryFrame, mkF, argsToLocals, Value.category]; done) | rfl
def own_QlqS (Z : State) (a1 : Addr) (a2 : Addr) (k1 : ClassId) (k2 : ClassId) (h0 : Heap) (n0 : Nat) : Option Value → Heap → List Loc → Prop := fun v h L => v = some (.int 1) ∧ Fr n0 L ∧ h = h0
def own_RlqS : Room := { frames := 0, cells := 0, slots := 0, locals := 0 }
set_option maxRecDepth 65536 in
set_option maxHeartbeats 40000000 in
theorem own_rmlqS (l : Launch) (Z : State) (a0 : Array Value) (hw : ∀ d ∈ tables_1, d.before a0 Z = true) (ws : List Jvm.Cond) (a1 : Addr) (a2 : Addr) (k1 : ClassId) (k2 : ClassId) (h0 : Heap) (n0 : Nat) (Z0 : n0 ≤ h0.size) (A1 : Arv Z h0 a1 k1 .byte (8 : Int32) [(.int 115), (.int 116), (.int 97), (.int 110), (.int 100), (.int 97), (.int 114), (.int 100)] (.int (0 : Int32))) (A2 : Arv Z h0 a2 k2 .byte (8 : Int32) [(.int 115), (.int 116), (.int 97), (.int 110), (.int 100), (.int 97), (.int 114), (.int 100)] (.int (0 : Int32))) :
    own_Met l Z own_y0 jdk_43_method_13_code 3 (some .boolean) ws own_RlqS h0 #[(.ref a1), (.ref a2)] (own_QlqS Z a1 a2 k1 k2 h0 n0) own_RlqS.cells own_RlqS.slots := by
  refine own_start (plainFor_of_name own_pn0) ?_
  intro p e s m below meth c s₁ X0 hx hZ hby hml hret hlk hown hnm e0
  have hown : s.vm.findClass "java/lang/StringLatin1" = some m.cls := hown
  have hml : c.maxLocals = 3 := hml
  have N0 := Fr.nil n0
  refine own_cast (own_eflqS m a1 a2) ?_
  refine own_s s₁ (mkF m 1 #[rv a1, rv a2, u_] [(.ref a1)]) (fun _ k => XS.aloadN X0.here hx rfl (hb hby own_dlqS_0) rfl rfl k) ?_
  obtain ⟨cl1, Ar1, q1, S1, Nn1, H1, G1⟩ := id A1
  refine own_s s₁ (mkF m 3 #[rv a1, rv a2, u_] [(.ref a2), (.int 8)]) (fun _ k => own_len X0 hx hZ e0 Ar1 S1 Nn1 (g := (mkF m 1 #[rv a1, rv a2, u_] [(.ref a1)])) rfl rfl (hb hby own_dlqS_1) (XS.aloadN X0.here hx rfl (hb hby own_dlqS_2) rfl rfl k)) ?_
  obtain ⟨cl2, Ar2, q2, S2, Nn2, H2, G2⟩ := id A2
  refine own_s s₁ (mkF m 10 #[rv a1, rv a2, iv 0] [(.int 0)]) (fun _ k => own_len X0 hx hZ e0 Ar2 S2 Nn2 (g := (mkF m 3 #[rv a1, rv a2, u_] [(.ref a2), (.int 8)])) rfl rfl (hb hby own_dlqS_3) (XS.icmpNo X0.here hx rfl (hb hby own_dlqS_4) rfl (teq (by decide : ((8 : Int32) = (8 : Int32)))).2 (XS.iconst X0.here hx rfl (hb hby own_dlqS_7) (XS.istoreN X0.here hx rfl (hb hby own_dlqS_8) rfl (l' := #[rv a1, rv a2, iv 0]) rfl (XS.iloadN X0.here hx rfl (hb hby own_dlqS_9) rfl  k))))) ?_
  refine own_s s₁ (mkF m 11 #[rv a1, rv a2, iv 0] [(.ref a1), (.int 0)]) (fun _ k => XS.aloadN X0.here hx rfl (hb hby own_dlqS_10) rfl rfl k) ?_
  obtain ⟨cl3, Ar3, q3, S3, Nn3, H3, G3⟩ := id A1
  refine own_s s₁ (mkF m 17 #[rv a1, rv a2, iv 0] [(.int 0), (.ref a1)]) (fun _ k => own_len X0 hx hZ e0 Ar3 S3 Nn3 (g := (mkF m 11 #[rv a1, rv a2, iv 0] [(.ref a1), (.int 0)])) rfl rfl (hb hby own_dlqS_11) (XS.icmpNo X0.here hx rfl (hb hby own_dlqS_12) rfl (tlt (by decide : ((0 : Int32) < (8 : Int32)))).2.1 (XS.aloadN X0.here hx rfl (hb hby own_dlqS_15) rfl rfl (XS.iloadN X0.here hx rfl (hb hby own_dlqS_16) rfl  k)))) ?_
  obtain ⟨cl4, Ar4, q4, S4, Nn4, H4, G4⟩ := id A1
  have hin4 : ¬ ((0 : Int32) < 0 ∨ cl4.slots.size ≤ ((0 : Int32)).toNatClampNeg) := (inb_of S4 ⟨by decide, by decide⟩)
  refine own_s s₁ (mkF m 20 #[rv a1, rv a2, iv 0] [(.int 0), (.ref a2), (.int 115)]) (fun _ k => X0.baloadBytes hx (j := (0 : Int32)) (v := (.int 115)) (own_at e0 Ar4.1) (State.isArrayOf_alike hZ.alike Ar4.2.1) Ar4.2.2 hin4 (Has.at H4 hin4 rfl) (g := (mkF m 17 #[rv a1, rv a2, iv 0] [(.int 0), (.ref a1)])) rfl rfl (hb hby own_dlqS_17) _ (XS.aloadN X0.here hx rfl (hb hby own_dlqS_18) rfl rfl (XS.iloadN X0.here hx rfl (hb hby own_dlqS_19) rfl  k))) ?_
  obtain ⟨cl5, Ar5, q5, S5, Nn5, H5, G5⟩ := id A2
  have hin5 : ¬ ((0 : Int32) < 0 ∨ cl5.slots.size ≤ ((0 : Int32)).toNatClampNeg) := (inb_of S5 ⟨by decide, by decide⟩)
  refine own_s s₁ (mkF m 10 #[rv a1, rv a2, iv 1] [(.int 1)]) (fun _ k => X0.baloadBytes hx (j := (0 : Int32)) (v := (.int 115)) (own_at e0 Ar5.1) (State.isArrayOf_alike hZ.alike Ar5.2.1) Ar5.2.2 hin5 (Has.at H5 hin5 rfl) (g := (mkF m 20 #[rv a1, rv a2, iv 0] [(.int 0), (.ref a2), (.int 115)])) rfl rfl (hb hby own_dlqS_20) _ (XS.icmpYes X0.here hx rfl (pc0 := 21) (pc' := 26) rfl (hb hby own_dlqS_21) rfl (teq (by decide : ((115 : Int32) = (115 : Int32)))).1 (by decide) (by decide) (XS.iinc X0.here hx rfl (hb hby own_dlqS_26) rfl (l' := #[rv a1, rv a2, iv 1]) rfl (XS.goto X0.here hx rfl (pc0 := 29) (pc' := 9) rfl (hb hby own_dlqS_29) (by decide) (by decide) (XS.iloadN X0.here hx rfl (hb hby own_dlqS_9) rfl  k))))) ?_
  refine own_s s₁ (mkF m 11 #[rv a1, rv a2, iv 1] [(.ref a1), (.int 1)]) (fun _ k => XS.aloadN X0.here hx rfl (hb hby own_dlqS_10) rfl rfl k) ?_
  obtain ⟨cl6, Ar6, q6, S6, Nn6, H6, G6⟩ := id A1
  refine own_s s₁ (mkF m 17 #[rv a1, rv a2, iv 1] [(.int 1), (.ref a1)]) (fun _ k => own_len X0 hx hZ e0 Ar6 S6 Nn6 (g := (mkF m 11 #[rv a1, rv a2, iv 1] [(.ref a1), (.int 1)])) rfl rfl (hb hby own_dlqS_11) (XS.icmpNo X0.here hx rfl (hb hby own_dlqS_12) rfl (tlt (by decide : ((1 : Int32) < (8 : Int32)))).2.1 (XS.aloadN X0.here hx rfl (hb hby own_dlqS_15) rfl rfl (XS.iloadN X0.here hx rfl (hb hby own_dlqS_16) rfl  k)))) ?_
  obtain ⟨cl7, Ar7, q7, S7, Nn7, H7, G7⟩ := id A1
  have hin7 : ¬ ((1 : Int32) < 0 ∨ cl7.slots.size ≤ ((1 : Int32)).toNatClampNeg) := (inb_of S7 ⟨by decide, by decide⟩)
  refine own_s s₁ (mkF m 20 #[rv a1, rv a2, iv 1] [(.int 1), (.ref a2), (.int 116)]) (fun _ k => X0.baloadBytes hx (j := (1 : Int32)) (v := (.int 116)) (own_at e0 Ar7.1) (State.isArrayOf_alike hZ.alike Ar7.2.1) Ar7.2.2 hin7 (Has.at H7 hin7 rfl) (g := (mkF m 17 #[rv a1, rv a2, iv 1] [(.int 1), (.ref a1)])) rfl rfl (hb hby own_dlqS_17) _ (XS.aloadN X0.here hx rfl (hb hby own_dlqS_18) rfl rfl (XS.iloadN X0.here hx rfl (hb hby own_dlqS_19) rfl  k))) ?_
  obtain ⟨cl8, Ar8, q8, S8, Nn8, H8, G8⟩ := id A2
  have hin8 : ¬ ((1 : Int32) < 0 ∨ cl8.slots.size ≤ ((1 : Int32)).toNatClampNeg) := (inb_of S8 ⟨by decide, by decide⟩)
  refine own_s s₁ (mkF m 10 #[rv a1, rv a2, iv 2] [(.int 2)]) (fun _ k => X0.baloadBytes hx (j := (1 : Int32)) (v := (.int 116)) (own_at e0 Ar8.1) (State.isArrayOf_alike hZ.alike Ar8.2.1) Ar8.2.2 hin8 (Has.at H8 hin8 rfl) (g := (mkF m 20 #[rv a1, rv a2, iv 1] [(.int 1), (.ref a2), (.int 116)])) rfl rfl (hb hby own_dlqS_20) _ (XS.icmpYes X0.here hx rfl (pc0 := 21) (pc' := 26) rfl (hb hby own_dlqS_21) rfl (teq (by decide : ((116 : Int32) = (116 : Int32)))).1 (by decide) (by decide) (XS.iinc X0.here hx rfl (hb hby own_dlqS_26) rfl (l' := #[rv a1, rv a2, iv 2]) rfl (XS.goto X0.here hx rfl (pc0 := 29) (pc' := 9) rfl (hb hby own_dlqS_29) (by decide) (by decide) (XS.iloadN X0.here hx rfl (hb hby own_dlqS_9) rfl  k))))) ?_
  refine own_s s₁ (mkF m 11 #[rv a1, rv a2, iv 2] [(.ref a1), (.int 2)]) (fun _ k => XS.aloadN X0.here hx rfl (hb hby own_dlqS_10) rfl rfl k) ?_
  obtain ⟨cl9, Ar9, q9, S9, Nn9, H9, G9⟩ := id A1
  refine own_s s₁ (mkF m 17 #[rv a1, rv a2, iv 2] [(.int 2), (.ref a1)]) (fun _ k => own_len X0 hx hZ e0 Ar9 S9 Nn9 (g := (mkF m 11 #[rv a1, rv a2, iv 2] [(.ref a1), (.int 2)])) rfl rfl (hb hby own_dlqS_11) (XS.icmpNo X0.here hx rfl (hb hby own_dlqS_12) rfl (tlt (by decide : ((2 : Int32) < (8 : Int32)))).2.1 (XS.aloadN X0.here hx rfl (hb hby own_dlqS_15) rfl rfl (XS.iloadN X0.here hx rfl (hb hby own_dlqS_16) rfl  k)))) ?_
  obtain ⟨cl10, Ar10, q10, S10, Nn10, H10, G10⟩ := id A1
  have hin10 : ¬ ((2 : Int32) < 0 ∨ cl10.slots.size ≤ ((2 : Int32)).toNatClampNeg) := (inb_of S10 ⟨by decide, by decide⟩)
  refine own_s s₁ (mkF m 20 #[rv a1, rv a2, iv 2] [(.int 2), (.ref a2), (.int 97)]) (fun _ k => X0.baloadBytes hx (j := (2 : Int32)) (v := (.int 97)) (own_at e0 Ar10.1) (State.isArrayOf_alike hZ.alike Ar10.2.1) Ar10.2.2 hin10 (Has.at H10 hin10 rfl) (g := (mkF m 17 #[rv a1, rv a2, iv 2] [(.int 2), (.ref a1)])) rfl rfl (hb hby own_dlqS_17) _ (XS.aloadN X0.here hx rfl (hb hby own_dlqS_18) rfl rfl (XS.iloadN X0.here hx rfl (hb hby own_dlqS_19) rfl  k))) ?_
  obtain ⟨cl11, Ar11, q11, S11, Nn11, H11, G11⟩ := id A2
  have hin11 : ¬ ((2 : Int32) < 0 ∨ cl11.slots.size ≤ ((2 : Int32)).toNatClampNeg) := (inb_of S11 ⟨by decide, by decide⟩)
  refine own_s s₁ (mkF m 10 #[rv a1, rv a2, iv 3] [(.int 3)]) (fun _ k => X0.baloadBytes hx (j := (2 : Int32)) (v := (.int 97)) (own_at e0 Ar11.1) (State.isArrayOf_alike hZ.alike Ar11.2.1) Ar11.2.2 hin11 (Has.at H11 hin11 rfl) (g := (mkF m 20 #[rv a1, rv a2, iv 2] [(.int 2), (.ref a2), (.int 97)])) rfl rfl (hb hby own_dlqS_20) _ (XS.icmpYes X0.here hx rfl (pc0 := 21) (pc' := 26) rfl (hb hby own_dlqS_21) rfl (teq (by decide : ((97 : Int32) = (97 : Int32)))).1 (by decide) (by decide) (XS.iinc X0.here hx rfl (hb hby own_dlqS_26) rfl (l' := #[rv a1, rv a2, iv 3]) rfl (XS.goto X0.here hx rfl (pc0 := 29) (pc' := 9) rfl (hb hby own_dlqS_29) (by decide) (by decide) (XS.iloadN X0.here hx rfl (hb hby own_dlqS_9) rfl  k))))) ?_
  refine own_s s₁ (mkF m 11 #[rv a1, rv a2, iv 3] [(.ref a1), (.int 3)]) (fun _ k => XS.aloadN X0.here hx rfl (hb hby own_dlqS_10) rfl rfl k) ?_
  obtain ⟨cl12, Ar12, q12, S12, Nn12, H12, G12⟩ := id A1
  refine own_s s₁ (mkF m 17 #[rv a1, rv a2, iv 3] [(.int 3), (.ref a1)]) (fun _ k => own_len X0 hx hZ e0 Ar12 S12 Nn12 (g := (mkF m 11 #[rv a1, rv a2, iv 3] [(.ref a1), (.int 3)])) rfl rfl (hb hby own_dlqS_11) (XS.icmpNo X0.here hx rfl (hb hby own_dlqS_12) rfl (tlt (by decide : ((3 : Int32) < (8 : Int32)))).2.1 (XS.aloadN X0.here hx rfl (hb hby own_dlqS_15) rfl rfl (XS.iloadN X0.here hx rfl (hb hby own_dlqS_16) rfl  k)))) ?_
  obtain ⟨cl13, Ar13, q13, S13, Nn13, H13, G13⟩ := id A1
  have hin13 : ¬ ((3 : Int32) < 0 ∨ cl13.slots.size ≤ ((3 : Int32)).toNatClampNeg) := (inb_of S13 ⟨by decide, by decide⟩)
  refine own_s s₁ (mkF m 20 #[rv a1, rv a2, iv 3] [(.int 3), (.ref a2), (.int 110)]) (fun _ k => X0.baloadBytes hx (j := (3 : Int32)) (v := (.int 110)) (own_at e0 Ar13.1) (State.isArrayOf_alike hZ.alike Ar13.2.1) Ar13.2.2 hin13 (Has.at H13 hin13 rfl) (g := (mkF m 17 #[rv a1, rv a2, iv 3] [(.int 3), (.ref a1)])) rfl rfl (hb hby own_dlqS_17) _ (XS.aloadN X0.here hx rfl (hb hby own_dlqS_18) rfl rfl (XS.iloadN X0.here hx rfl (hb hby own_dlqS_19) rfl  k))) ?_
  obtain ⟨cl14, Ar14, q14, S14, Nn14, H14, G14⟩ := id A2
  have hin14 : ¬ ((3 : Int32) < 0 ∨ cl14.slots.size ≤ ((3 : Int32)).toNatClampNeg) := (inb_of S14 ⟨by decide, by decide⟩)
  refine own_s s₁ (mkF m 10 #[rv a1, rv a2, iv 4] [(.int 4)]) (fun _ k => X0.baloadBytes hx (j := (3 : Int32)) (v := (.int 110)) (own_at e0 Ar14.1) (State.isArrayOf_alike hZ.alike Ar14.2.1) Ar14.2.2 hin14 (Has.at H14 hin14 rfl) (g := (mkF m 20 #[rv a1, rv a2, iv 3] [(.int 3), (.ref a2), (.int 110)])) rfl rfl (hb hby own_dlqS_20) _ (XS.icmpYes X0.here hx rfl (pc0 := 21) (pc' := 26) rfl (hb hby own_dlqS_21) rfl (teq (by decide : ((110 : Int32) = (110 : Int32)))).1 (by decide) (by decide) (XS.iinc X0.here hx rfl (hb hby own_dlqS_26) rfl (l' := #[rv a1, rv a2, iv 4]) rfl (XS.goto X0.here hx rfl (pc0 := 29) (pc' := 9) rfl (hb hby own_dlqS_29) (by decide) (by decide) (XS.iloadN X0.here hx rfl (hb hby own_dlqS_9) rfl  k))))) ?_
  refine own_s s₁ (mkF m 11 #[rv a1, rv a2, iv 4] [(.ref a1), (.int 4)]) (fun _ k => XS.aloadN X0.here hx rfl (hb hby own_dlqS_10) rfl rfl k) ?_
  obtain ⟨cl15, Ar15, q15, S15, Nn15, H15, G15⟩ := id A1
  refine own_s s₁ (mkF m 17 #[rv a1, rv a2, iv 4] [(.int 4), (.ref a1)]) (fun _ k => own_len X0 hx hZ e0 Ar15 S15 Nn15 (g := (mkF m 11 #[rv a1, rv a2, iv 4] [(.ref a1), (.int 4)])) rfl rfl (hb hby own_dlqS_11) (XS.icmpNo X0.here hx rfl (hb hby own_dlqS_12) rfl (tlt (by decide : ((4 : Int32) < (8 : Int32)))).2.1 (XS.aloadN X0.here hx rfl (hb hby own_dlqS_15) rfl rfl (XS.iloadN X0.here hx rfl (hb hby own_dlqS_16) rfl  k)))) ?_
  obtain ⟨cl16, Ar16, q16, S16, Nn16, H16, G16⟩ := id A1
  have hin16 : ¬ ((4 : Int32) < 0 ∨ cl16.slots.size ≤ ((4 : Int32)).toNatClampNeg) := (inb_of S16 ⟨by decide, by decide⟩)
  refine own_s s₁ (mkF m 20 #[rv a1, rv a2, iv 4] [(.int 4), (.ref a2), (.int 100)]) (fun _ k => X0.baloadBytes hx (j := (4 : Int32)) (v := (.int 100)) (own_at e0 Ar16.1) (State.isArrayOf_alike hZ.alike Ar16.2.1) Ar16.2.2 hin16 (Has.at H16 hin16 rfl) (g := (mkF m 17 #[rv a1, rv a2, iv 4] [(.int 4), (.ref a1)])) rfl rfl (hb hby own_dlqS_17) _ (XS.aloadN X0.here hx rfl (hb hby own_dlqS_18) rfl rfl (XS.iloadN X0.here hx rfl (hb hby own_dlqS_19) rfl  k))) ?_
  obtain ⟨cl17, Ar17, q17, S17, Nn17, H17, G17⟩ := id A2
  have hin17 : ¬ ((4 : Int32) < 0 ∨ cl17.slots.size ≤ ((4 : Int32)).toNatClampNeg) := (inb_of S17 ⟨by decide, by decide⟩)
  refine own_s s₁ (mkF m 10 #[rv a1, rv a2, iv 5] [(.int 5)]) (fun _ k => X0.baloadBytes hx (j := (4 : Int32)) (v := (.int 100)) (own_at e0 Ar17.1) (State.isArrayOf_alike hZ.alike Ar17.2.1) Ar17.2.2 hin17 (Has.at H17 hin17 rfl) (g := (mkF m 20 #[rv a1, rv a2, iv 4] [(.int 4), (.ref a2), (.int 100)])) rfl rfl (hb hby own_dlqS_20) _ (XS.icmpYes X0.here hx rfl (pc0 := 21) (pc' := 26) rfl (hb hby own_dlqS_21) rfl (teq (by decide : ((100 : Int32) = (100 : Int32)))).1 (by decide) (by decide) (XS.iinc X0.here hx rfl (hb hby own_dlqS_26) rfl (l' := #[rv a1, rv a2, iv 5]) rfl (XS.goto X0.here hx rfl (pc0 := 29) (pc' := 9) rfl (hb hby own_dlqS_29) (by decide) (by decide) (XS.iloadN X0.here hx rfl (hb hby own_dlqS_9) rfl  k))))) ?_
  refine own_s s₁ (mkF m 11 #[rv a1, rv a2, iv 5] [(.ref a1), (.int 5)]) (fun _ k => XS.aloadN X0.here hx rfl (hb hby own_dlqS_10) rfl rfl k) ?_
  obtain ⟨cl18, Ar18, q18, S18, Nn18, H18, G18⟩ := id A1
  refine own_s s₁ (mkF m 17 #[rv a1, rv a2, iv 5] [(.int 5), (.ref a1)]) (fun _ k => own_len X0 hx hZ e0 Ar18 S18 Nn18 (g := (mkF m 11 #[rv a1, rv a2, iv 5] [(.ref a1), (.int 5)])) rfl rfl (hb hby own_dlqS_11) (XS.icmpNo X0.here hx rfl (hb hby own_dlqS_12) rfl (tlt (by decide : ((5 : Int32) < (8 : Int32)))).2.1 (XS.aloadN X0.here hx rfl (hb hby own_dlqS_15) rfl rfl (XS.iloadN X0.here hx rfl (hb hby own_dlqS_16) rfl  k)))) ?_
  obtain ⟨cl19, Ar19, q19, S19, Nn19, H19, G19⟩ := id A1
  have hin19 : ¬ ((5 : Int32) < 0 ∨ cl19.slots.size ≤ ((5 : Int32)).toNatClampNeg) := (inb_of S19 ⟨by decide, by decide⟩)
  refine own_s s₁ (mkF m 20 #[rv a1, rv a2, iv 5] [(.int 5), (.ref a2), (.int 97)]) (fun _ k => X0.baloadBytes hx (j := (5 : Int32)) (v := (.int 97)) (own_at e0 Ar19.1) (State.isArrayOf_alike hZ.alike Ar19.2.1) Ar19.2.2 hin19 (Has.at H19 hin19 rfl) (g := (mkF m 17 #[rv a1, rv a2, iv 5] [(.int 5), (.ref a1)])) rfl rfl (hb hby own_dlqS_17) _ (XS.aloadN X0.here hx rfl (hb hby own_dlqS_18) rfl rfl (XS.iloadN X0.here hx rfl (hb hby own_dlqS_19) rfl  k))) ?_
  obtain ⟨cl20, Ar20, q20, S20, Nn20, H20, G20⟩ := id A2
  have hin20 : ¬ ((5 : Int32) < 0 ∨ cl20.slots.size ≤ ((5 : Int32)).toNatClampNeg) := (inb_of S20 ⟨by decide, by decide⟩)
  refine own_s s₁ (mkF m 10 #[rv a1, rv a2, iv 6] [(.int 6)]) (fun _ k => X0.baloadBytes hx (j := (5 : Int32)) (v := (.int 97)) (own_at e0 Ar20.1) (State.isArrayOf_alike hZ.alike Ar20.2.1) Ar20.2.2 hin20 (Has.at H20 hin20 rfl) (g := (mkF m 20 #[rv a1, rv a2, iv 5] [(.int 5), (.ref a2), (.int 97)])) rfl rfl (hb hby own_dlqS_20) _ (XS.icmpYes X0.here hx rfl (pc0 := 21) (pc' := 26) rfl (hb hby own_dlqS_21) rfl (teq (by decide : ((97 : Int32) = (97 : Int32)))).1 (by decide) (by decide) (XS.iinc X0.here hx rfl (hb hby own_dlqS_26) rfl (l' := #[rv a1, rv a2, iv 6]) rfl (XS.goto X0.here hx rfl (pc0 := 29) (pc' := 9) rfl (hb hby own_dlqS_29) (by decide) (by decide) (XS.iloadN X0.here hx rfl (hb hby own_dlqS_9) rfl  k))))) ?_
  refine own_s s₁ (mkF m 11 #[rv a1, rv a2, iv 6] [(.ref a1), (.int 6)]) (fun _ k => XS.aloadN X0.here hx rfl (hb hby own_dlqS_10) rfl rfl k) ?_
  obtain ⟨cl21, Ar21, q21, S21, Nn21, H21, G21⟩ := id A1
  refine own_s s₁ (mkF m 17 #[rv a1, rv a2, iv 6] [(.int 6), (.ref a1)]) (fun _ k => own_len X0 hx hZ e0 Ar21 S21 Nn21 (g := (mkF m 11 #[rv a1, rv a2, iv 6] [(.ref a1), (.int 6)])) rfl rfl (hb hby own_dlqS_11) (XS.icmpNo X0.here hx rfl (hb hby own_dlqS_12) rfl (tlt (by decide : ((6 : Int32) < (8 : Int32)))).2.1 (XS.aloadN X0.here hx rfl (hb hby own_dlqS_15) rfl rfl (XS.iloadN X0.here hx rfl (hb hby own_dlqS_16) rfl  k)))) ?_
  obtain ⟨cl22, Ar22, q22, S22, Nn22, H22, G22⟩ := id A1
  have hin22 : ¬ ((6 : Int32) < 0 ∨ cl22.slots.size ≤ ((6 : Int32)).toNatClampNeg) := (inb_of S22 ⟨by decide, by decide⟩)
  refine own_s s₁ (mkF m 20 #[rv a1, rv a2, iv 6] [(.int 6), (.ref a2), (.int 114)]) (fun _ k => X0.baloadBytes hx (j := (6 : Int32)) (v := (.int 114)) (own_at e0 Ar22.1) (State.isArrayOf_alike hZ.alike Ar22.2.1) Ar22.2.2 hin22 (Has.at H22 hin22 rfl) (g := (mkF m 17 #[rv a1, rv a2, iv 6] [(.int 6), (.ref a1)])) rfl rfl (hb hby own_dlqS_17) _ (XS.aloadN X0.here hx rfl (hb hby own_dlqS_18) rfl rfl (XS.iloadN X0.here hx rfl (hb hby own_dlqS_19) rfl  k))) ?_
  obtain ⟨cl23, Ar23, q23, S23, Nn23, H23, G23⟩ := id A2
  have hin23 : ¬ ((6 : Int32) < 0 ∨ cl23.slots.size ≤ ((6 : Int32)).toNatClampNeg) := (inb_of S23 ⟨by decide, by decide⟩)
  refine own_s s₁ (mkF m 10 #[rv a1, rv a2, iv 7] [(.int 7)]) (fun _ k => X0.baloadBytes hx (j := (6 : Int32)) (v := (.int 114)) (own_at e0 Ar23.1) (State.isArrayOf_alike hZ.alike Ar23.2.1) Ar23.2.2 hin23 (Has.at H23 hin23 rfl) (g := (mkF m 20 #[rv a1, rv a2, iv 6] [(.int 6), (.ref a2), (.int 114)])) rfl rfl (hb hby own_dlqS_20) _ (XS.icmpYes X0.here hx rfl (pc0 := 21) (pc' := 26) rfl (hb hby own_dlqS_21) rfl (teq (by decide : ((114 : Int32) = (114 : Int32)))).1 (by decide) (by decide) (XS.iinc X0.here hx rfl (hb hby own_dlqS_26) rfl (l' := #[rv a1, rv a2, iv 7]) rfl (XS.goto X0.here hx rfl (pc0 := 29) (pc' := 9) rfl (hb hby own_dlqS_29) (by decide) (by decide) (XS.iloadN X0.here hx rfl (hb hby own_dlqS_9) rfl  k))))) ?_
  refine own_s s₁ (mkF m 11 #[rv a1, rv a2, iv 7] [(.ref a1), (.int 7)]) (fun _ k => XS.aloadN X0.here hx rfl (hb hby own_dlqS_10) rfl rfl k) ?_
  obtain ⟨cl24, Ar24, q24, S24, Nn24, H24, G24⟩ := id A1
  refine own_s s₁ (mkF m 17 #[rv a1, rv a2, iv 7] [(.int 7), (.ref a1)]) (fun _ k => own_len X0 hx hZ e0 Ar24 S24 Nn24 (g := (mkF m 11 #[rv a1, rv a2, iv 7] [(.ref a1), (.int 7)])) rfl rfl (hb hby own_dlqS_11) (XS.icmpNo X0.here hx rfl (hb hby own_dlqS_12) rfl (tlt (by decide : ((7 : Int32) < (8 : Int32)))).2.1 (XS.aloadN X0.here hx rfl (hb hby own_dlqS_15) rfl rfl (XS.iloadN X0.here hx rfl (hb hby own_dlqS_16) rfl  k)))) ?_
  obtain ⟨cl25, Ar25, q25, S25, Nn25, H25, G25⟩ := id A1
  have hin25 : ¬ ((7 : Int32) < 0 ∨ cl25.slots.size ≤ ((7 : Int32)).toNatClampNeg) := (inb_of S25 ⟨by decide, by decide⟩)
  refine own_s s₁ (mkF m 20 #[rv a1, rv a2, iv 7] [(.int 7), (.ref a2), (.int 100)]) (fun _ k => X0.baloadBytes hx (j := (7 : Int32)) (v := (.int 100)) (own_at e0 Ar25.1) (State.isArrayOf_alike hZ.alike Ar25.2.1) Ar25.2.2 hin25 (Has.at H25 hin25 rfl) (g := (mkF m 17 #[rv a1, rv a2, iv 7] [(.int 7), (.ref a1)])) rfl rfl (hb hby own_dlqS_17) _ (XS.aloadN X0.here hx rfl (hb hby own_dlqS_18) rfl rfl (XS.iloadN X0.here hx rfl (hb hby own_dlqS_19) rfl  k))) ?_
  obtain ⟨cl26, Ar26, q26, S26, Nn26, H26, G26⟩ := id A2
  have hin26 : ¬ ((7 : Int32) < 0 ∨ cl26.slots.size ≤ ((7 : Int32)).toNatClampNeg) := (inb_of S26 ⟨by decide, by decide⟩)
  refine own_s s₁ (mkF m 10 #[rv a1, rv a2, iv 8] [(.int 8)]) (fun _ k => X0.baloadBytes hx (j := (7 : Int32)) (v := (.int 100)) (own_at e0 Ar26.1) (State.isArrayOf_alike hZ.alike Ar26.2.1) Ar26.2.2 hin26 (Has.at H26 hin26 rfl) (g := (mkF m 20 #[rv a1, rv a2, iv 7] [(.int 7), (.ref a2), (.int 100)])) rfl rfl (hb hby own_dlqS_20) _ (XS.icmpYes X0.here hx rfl (pc0 := 21) (pc' := 26) rfl (hb hby own_dlqS_21) rfl (teq (by decide : ((100 : Int32) = (100 : Int32)))).1 (by decide) (by decide) (XS.iinc X0.here hx rfl (hb hby own_dlqS_26) rfl (l' := #[rv a1, rv a2, iv 8]) rfl (XS.goto X0.here hx rfl (pc0 := 29) (pc' := 9) rfl (hb hby own_dlqS_29) (by decide) (by decide) (XS.iloadN X0.here hx rfl (hb hby own_dlqS_9) rfl  k))))) ?_
  refine own_s s₁ (mkF m 11 #[rv a1, rv a2, iv 8] [(.ref a1), (.int 8)]) (fun _ k => XS.aloadN X0.here hx rfl (hb hby own_dlqS_10) rfl rfl k) ?_
  obtain ⟨cl27, Ar27, q27, S27, Nn27, H27, G27⟩ := id A1
  refine own_s s₁ (mkF m 33 #[rv a1, rv a2, iv 8] [(.int 1)]) (fun _ k => own_len X0 hx hZ e0 Ar27 S27 Nn27 (g := (mkF m 11 #[rv a1, rv a2, iv 8] [(.ref a1), (.int 8)])) rfl rfl (hb hby own_dlqS_11) (XS.icmpYes X0.here hx rfl (pc0 := 12) (pc' := 32) rfl (hb hby own_dlqS_12) rfl (flt (by decide : ¬ ((8 : Int32) < (8 : Int32)))).2.1 (by decide) (by decide) (XS.iconst X0.here hx rfl (hb hby own_dlqS_32) k))) ?_
  exact own_finZ X0 hx (t := .boolean) hret (by simp) (z' := (1 : Int32)) rfl (hb hby own_dlqS_33) (own_end (Qv := (own_QlqS Z a1 a2 k1 k2 h0 n0)) X0 (own_some hret) hlk (by decide) (by decide) e0 ⟨rfl, N0, rfl⟩)
theorem own_pd0 : parseMethodDescriptor "([B[B)Z" = some ⟨[(.array .byte), (.array .byte)], some .boolean⟩ := by decide +kernel
abbrev own_y1 : MethodName := ⟨"java/lang/String", "equals", "(Ljava/lang/Object;)Z"⟩
theorem own_pn1 : plainName "java/lang/String" = true := by first | (simp [plainName, overriddenIn]; done) | decide +kernel
theorem own_deqL_0 : decode jdk_42_method_66_code 0 = .ok (.aload_n 0, 1) := by decide +kernel
theorem own_deqL_1 : decode jdk_42_method_66_code 1 = .ok (.aload_n 1, 1) := by decide +kernel
theorem own_deqL_2 : decode jdk_42_method_66_code 2 = .ok (.if_acmp .ne 5, 3) := by decide +kernel
theorem own_deqL_5 : decode jdk_42_method_66_code 5 = .ok (.iconst 1, 1) := by decide +kernel
theorem own_deqL_6 : decode jdk_42_method_66_code 6 = .ok (.ireturn, 1) := by decide +kernel
theorem own_deqL_7 : decode jdk_42_method_66_code 7 = .ok (.aload_n 1, 1) := by decide +kernel
theorem own_deqL_8 : decode jdk_42_method_66_code 8 = .ok (.instanceof 10, 3) := by decide +kernel
theorem own_deqL_11 : decode jdk_42_method_66_code 11 = .ok (.ifCond .eq 43, 3) := by decide +kernel
theorem own_deqL_14 : decode jdk_42_method_66_code 14 = .ok (.aload_n 1, 1) := by decide +kernel
theorem own_deqL_15 : decode jdk_42_method_66_code 15 = .ok (.checkcast 10, 3) := by decide +kernel
theorem own_deqL_18 : decode jdk_42_method_66_code 18 = .ok (.astore_n 2, 1) := by decide +kernel
theorem own_deqL_19 : decode jdk_42_method_66_code 19 = .ok (.getstatic 38, 3) := by decide +kernel
theorem own_deqL_22 : decode jdk_42_method_66_code 22 = .ok (.ifCond .eq 14, 3) := by decide +kernel
theorem own_deqL_25 : decode jdk_42_method_66_code 25 = .ok (.aload_n 0, 1) := by decide +kernel
theorem own_deqL_26 : decode jdk_42_method_66_code 26 = .ok (.getfield 15, 3) := by decide +kernel
theorem own_deqL_29 : decode jdk_42_method_66_code 29 = .ok (.aload_n 2, 1) := by decide +kernel
theorem own_deqL_30 : decode jdk_42_method_66_code 30 = .ok (.getfield 15, 3) := by decide +kernel
theorem own_deqL_33 : decode jdk_42_method_66_code 33 = .ok (.if_icmp .ne 21, 3) := by decide +kernel
theorem own_deqL_36 : decode jdk_42_method_66_code 36 = .ok (.aload_n 0, 1) := by decide +kernel
theorem own_deqL_37 : decode jdk_42_method_66_code 37 = .ok (.getfield 9, 3) := by decide +kernel
theorem own_deqL_40 : decode jdk_42_method_66_code 40 = .ok (.aload_n 2, 1) := by decide +kernel
theorem own_deqL_41 : decode jdk_42_method_66_code 41 = .ok (.getfield 9, 3) := by decide +kernel
theorem own_deqL_44 : decode jdk_42_method_66_code 44 = .ok (.invokestatic 541, 3) := by decide +kernel
theorem own_deqL_47 : decode jdk_42_method_66_code 47 = .ok (.ifCond .eq 7, 3) := by decide +kernel
theorem own_deqL_54 : decode jdk_42_method_66_code 54 = .ok (.iconst 0, 1) := by decide +kernel
theorem own_deqL_55 : decode jdk_42_method_66_code 55 = .ok (.ireturn, 1) := by decide +kernel
theorem own_efeqL (m : MethodId) (x0 : Addr) (x1 : Addr) : entryFrame m #[(.ref x0), (.ref x1)] 3 = mkF m 0 #[rv x0, rv x1, u_] [] := by first | (simp [entryFrame, mkF, argsToLocals, Value.category]; done) | rfl
def own_QeqL (Z : State) (a1 : Addr) (a2 : Addr) (b1a : Addr) (b2a : Addr) (k1 : ClassId) (k2 : ClassId) (G1 : Int32) (h0 : Heap) (n0 : Nat) : Option Value → Heap → List Loc → Prop := fun v h L => v = some (.int 0) ∧ Fr n0 L ∧ h = h0
def own_ReqL : Room := { frames := 1, cells := 0, slots := 0, locals := 14 }
set_option maxRecDepth 65536 in
set_option maxHeartbeats 40000000 in
theorem own_rmeqL (l : Launch) (Z : State) (a0 : Array Value) (hw : ∀ d ∈ tables_1, d.before a0 Z = true) (ws : List Jvm.Cond) (a1 : Addr) (a2 : Addr) (b1a : Addr) (b2a : Addr) (k1 : ClassId) (k2 : ClassId) (G1 : Int32) (h0 : Heap) (n0 : Nat) (Z0 : n0 ≤ h0.size) (E1 : Exa Z h0 a1 "java/lang/String") (E2 : Exa Z h0 a2 "java/lang/String") (C1 : Fld Z h0 a1 "java/lang/String" "coder" "B" (.int (0 : Int32))) (C2 : Fld Z h0 a2 "java/lang/String" "coder" "B" (.int (0 : Int32))) (V1 : Fld Z h0 a1 "java/lang/String" "value" "[B" (.ref b1a)) (V2 : Fld Z h0 a2 "java/lang/String" "value" "[B" (.ref b2a)) (A1 : Arv Z h0 b1a k1 .byte (6 : Int32) [(.int 108), (.int 105), (.int 110), (.int 116), (.int 101), (.int 108)] (.int (0 : Int32))) (A2 : Arv Z h0 b2a k2 .byte (8 : Int32) [(.int 115), (.int 116), (.int 97), (.int 110), (.int 100), (.int 97), (.int 114), (.int 100)] (.int (0 : Int32))) (SC : Sta Z h0 "java/lang/String" "COMPACT_STRINGS" "Z" (.int G1)) (hG : ¬ G1 = (0 : Int32)) :
    own_Met l Z own_y1 jdk_42_method_66_code 3 (some .boolean) ws own_ReqL h0 #[(.ref a1), (.ref a2)] (own_QeqL Z a1 a2 b1a b2a k1 k2 G1 h0 n0) own_ReqL.cells own_ReqL.slots := by
  refine own_start (plainFor_of_name own_pn1) ?_
  intro p e s m below meth c s₁ X0 hx hZ hby hml hret hlk hown hnm e0
  have hown : s.vm.findClass "java/lang/String" = some m.cls := hown
  have hml : c.maxLocals = 3 := hml
  have N0 := Fr.nil n0
  refine own_cast (own_efeqL m a1 a2) ?_
  refine own_s s₁ (mkF m 2 #[rv a1, rv a2, u_] [(.ref a2), (.ref a1)]) (fun _ k => XS.aloadN X0.here hx rfl (hb hby own_deqL_0) rfl rfl (XS.aloadN X0.here hx rfl (hb hby own_deqL_1) rfl rfl k)) ?_
  by_cases c2 : a1 = a2
  · refine own_s s₁ (mkF m 6 #[rv a1, rv a2, u_] [(.int 1)]) (fun _ k => Jvm.RoadKit.acmp (g := (mkF m 2 #[rv a1, rv a2, u_] [(.ref a2), (.ref a1)])) X0 hx rfl rfl rfl (pc0 := 2) (pc' := 5) (same := true) rfl (hb hby own_deqL_2) rfl (decide_eq_true (congrArg Value.ref c2)) (by decide) (by decide) (XS.iconst X0.here hx rfl (hb hby own_deqL_5) k)) ?_
    exact own_finZ X0 hx (t := .boolean) hret (by simp) (z' := (1 : Int32)) rfl (hb hby own_deqL_6) (own_end (Qv := (own_QeqL Z a1 a2 b1a b2a k1 k2 G1 h0 n0)) X0 (own_some hret) hlk (by decide) (by decide) e0 (by subst c2; cases own_fldEq V1 V2; exact absurd (own_arvLen A1 A2) (by decide)))
  · refine own_s s₁ (mkF m 8 #[rv a1, rv a2, u_] [(.ref a2)]) (fun _ k => Jvm.RoadKit.acmp (g := (mkF m 2 #[rv a1, rv a2, u_] [(.ref a2), (.ref a1)])) X0 hx rfl rfl rfl (pc0 := 2) (pc' := 7) (same := false) rfl (hb hby own_deqL_2) rfl (decide_eq_false fun q => c2 (Value.ref.inj q)) (by decide) (by decide) (XS.aloadN X0.here hx rfl (hb hby own_deqL_7) rfl rfl k)) ?_
    obtain ⟨T1, X1, e1, st1⟩ := instY X0 hx hZ hown (own_h hw 30 rfl) e0 (Ins.self E2) (g := (mkF m 8 #[rv a1, rv a2, u_] [(.ref a2)])) rfl rfl (hb hby own_deqL_8)
    refine own_s T1 (mkF m 11 #[rv a1, rv a2, u_] [(.int 1)]) st1 ?_
    refine own_s T1 (mkF m 15 #[rv a1, rv a2, u_] [(.ref a2)]) (fun _ k => XS.ifNo X1.here hx rfl (hb hby own_deqL_11) rfl ((if0 _ _).trans (feq (by decide : ¬ ((1 : Int32) = (0 : Int32)))).1) (XS.aloadN X1.here hx rfl (hb hby own_deqL_14) rfl rfl k)) ?_
    obtain ⟨T2, X2, e2, st2⟩ := castY X1 hx hZ hown (own_h hw 30 rfl) e1 (Ins.self E2) (g := (mkF m 15 #[rv a1, rv a2, u_] [(.ref a2)])) rfl rfl (hb hby own_deqL_15)
    refine own_s T2 (mkF m 18 #[rv a1, rv a2, u_] [(.ref a2)]) st2 ?_
    refine own_s T2 (mkF m 19 #[rv a1, rv a2, rv a2] []) (fun _ k => XS.astoreN X2.here hx rfl (hb hby own_deqL_18) rfl rfl (l' := #[rv a1, rv a2, rv a2]) rfl k) ?_
    obtain ⟨T3, X3, e3, st3⟩ := getS2 X2 hx hZ hown (host := "") (Or.inl (own_h hw 32 rfl)) Via.refl e2 SC (g := (mkF m 19 #[rv a1, rv a2, rv a2] [])) rfl (hb hby own_deqL_19)
    refine own_s T3 (mkF m 22 #[rv a1, rv a2, rv a2] [(.int G1)]) st3 ?_
    refine own_s T3 (mkF m 26 #[rv a1, rv a2, rv a2] [(.ref a1)]) (fun _ k => XS.ifNo X3.here hx rfl (hb hby own_deqL_22) rfl ((if0 _ _).trans (feq hG).1) (XS.aloadN X3.here hx rfl (hb hby own_deqL_25) rfl rfl k)) ?_
    obtain ⟨T4, X4, e4, st4⟩ := getF X3 hx hZ hown (host := "") (Or.inl (own_h hw 33 rfl)) Via.refl e3 C1 (g := (mkF m 26 #[rv a1, rv a2, rv a2] [(.ref a1)])) rfl rfl (hb hby own_deqL_26)
    refine own_s T4 (mkF m 29 #[rv a1, rv a2, rv a2] [(.int 0)]) st4 ?_
    refine own_s T4 (mkF m 30 #[rv a1, rv a2, rv a2] [(.ref a2), (.int 0)]) (fun _ k => XS.aloadN X4.here hx rfl (hb hby own_deqL_29) rfl rfl k) ?_
    obtain ⟨T5, X5, e5, st5⟩ := getF X4 hx hZ hown (host := "") (Or.inl (own_h hw 33 rfl)) Via.refl e4 C2 (g := (mkF m 30 #[rv a1, rv a2, rv a2] [(.ref a2), (.int 0)])) rfl rfl (hb hby own_deqL_30)
    refine own_s T5 (mkF m 33 #[rv a1, rv a2, rv a2] [(.int 0), (.int 0)]) st5 ?_
    refine own_s T5 (mkF m 37 #[rv a1, rv a2, rv a2] [(.ref a1)]) (fun _ k => XS.icmpNo X5.here hx rfl (hb hby own_deqL_33) rfl (teq (by decide : ((0 : Int32) = (0 : Int32)))).2 (XS.aloadN X5.here hx rfl (hb hby own_deqL_36) rfl rfl k)) ?_
    obtain ⟨T6, X6, e6, st6⟩ := getF X5 hx hZ hown (host := "") (Or.inl (own_h hw 34 rfl)) Via.refl e5 V1 (g := (mkF m 37 #[rv a1, rv a2, rv a2] [(.ref a1)])) rfl rfl (hb hby own_deqL_37)
    refine own_s T6 (mkF m 40 #[rv a1, rv a2, rv a2] [(.ref b1a)]) st6 ?_
    refine own_s T6 (mkF m 41 #[rv a1, rv a2, rv a2] [(.ref a2), (.ref b1a)]) (fun _ k => XS.aloadN X6.here hx rfl (hb hby own_deqL_40) rfl rfl k) ?_
    obtain ⟨T7, X7, e7, st7⟩ := getF X6 hx hZ hown (host := "") (Or.inl (own_h hw 34 rfl)) Via.refl e6 V2 (g := (mkF m 41 #[rv a1, rv a2, rv a2] [(.ref a2), (.ref b1a)])) rfl rfl (hb hby own_deqL_41)
    refine own_s T7 (mkF m 44 #[rv a1, rv a2, rv a2] [(.ref b2a), (.ref b1a)]) st7 ?_
    obtain ⟨v8, T8, L8, X8, hQ8, st8⟩ := own_callS X7 hx hZ (y := own_y0) (W := 0) hown (own_h hw 35 rfl) (own_h hw 36 rfl) (own_h hw 37 rfl) (own_h hw 38 rfl) (by decide) (own_rmlqL l Z a0 hw [] b1a b2a k1 k2 h0 n0 Z0 A1 A2) (by decide) (by decide) (g := (mkF m 44 #[rv a1, rv a2, rv a2] [(.ref b2a), (.ref b1a)])) rfl (by rw [hml]; rfl) (argsL := [(.ref b1a), (.ref b2a)]) (rest := []) rfl (lenOf own_pd0 rfl) rfl (by show 2 * 0 + _ ≤ _; exact Nat.le_of_eq rfl) (hb hby own_deqL_44) e7 (by decide) (by decide)
    obtain ⟨rfl, Nq8, e8⟩ := hQ8
    have N8 := Fr.app N0 Nq8
    refine own_s T8 (mkF m 47 #[rv a1, rv a2, rv a2] [(.int 0)]) st8 ?_
    refine own_s T8 (mkF m 55 #[rv a1, rv a2, rv a2] [(.int 0)]) (fun _ k => XS.ifYes X8.here hx rfl (pc0 := 47) (pc' := 54) rfl (hb hby own_deqL_47) rfl ((if0 _ _).trans (teq (by decide : ((0 : Int32) = (0 : Int32)))).1) (by decide) (by decide) (XS.iconst X8.here hx rfl (hb hby own_deqL_54) k)) ?_
    exact own_finZ X8 hx (t := .boolean) hret (by simp) (z' := (0 : Int32)) rfl (hb hby own_deqL_55) (own_end (Qv := (own_QeqL Z a1 a2 b1a b2a k1 k2 G1 h0 n0)) X8 (own_some hret) hlk (by decide) (by decide) e8 ⟨rfl, N8, rfl⟩)
theorem own_deqS_0 : decode jdk_42_method_66_code 0 = .ok (.aload_n 0, 1) := by decide +kernel
theorem own_deqS_1 : decode jdk_42_method_66_code 1 = .ok (.aload_n 1, 1) := by decide +kernel
theorem own_deqS_2 : decode jdk_42_method_66_code 2 = .ok (.if_acmp .ne 5, 3) := by decide +kernel
theorem own_deqS_5 : decode jdk_42_method_66_code 5 = .ok (.iconst 1, 1) := by decide +kernel
theorem own_deqS_6 : decode jdk_42_method_66_code 6 = .ok (.ireturn, 1) := by decide +kernel
theorem own_deqS_7 : decode jdk_42_method_66_code 7 = .ok (.aload_n 1, 1) := by decide +kernel
theorem own_deqS_8 : decode jdk_42_method_66_code 8 = .ok (.instanceof 10, 3) := by decide +kernel
theorem own_deqS_11 : decode jdk_42_method_66_code 11 = .ok (.ifCond .eq 43, 3) := by decide +kernel
theorem own_deqS_14 : decode jdk_42_method_66_code 14 = .ok (.aload_n 1, 1) := by decide +kernel
theorem own_deqS_15 : decode jdk_42_method_66_code 15 = .ok (.checkcast 10, 3) := by decide +kernel
theorem own_deqS_18 : decode jdk_42_method_66_code 18 = .ok (.astore_n 2, 1) := by decide +kernel
theorem own_deqS_19 : decode jdk_42_method_66_code 19 = .ok (.getstatic 38, 3) := by decide +kernel
theorem own_deqS_22 : decode jdk_42_method_66_code 22 = .ok (.ifCond .eq 14, 3) := by decide +kernel
theorem own_deqS_25 : decode jdk_42_method_66_code 25 = .ok (.aload_n 0, 1) := by decide +kernel
theorem own_deqS_26 : decode jdk_42_method_66_code 26 = .ok (.getfield 15, 3) := by decide +kernel
theorem own_deqS_29 : decode jdk_42_method_66_code 29 = .ok (.aload_n 2, 1) := by decide +kernel
theorem own_deqS_30 : decode jdk_42_method_66_code 30 = .ok (.getfield 15, 3) := by decide +kernel
theorem own_deqS_33 : decode jdk_42_method_66_code 33 = .ok (.if_icmp .ne 21, 3) := by decide +kernel
theorem own_deqS_36 : decode jdk_42_method_66_code 36 = .ok (.aload_n 0, 1) := by decide +kernel
theorem own_deqS_37 : decode jdk_42_method_66_code 37 = .ok (.getfield 9, 3) := by decide +kernel
theorem own_deqS_40 : decode jdk_42_method_66_code 40 = .ok (.aload_n 2, 1) := by decide +kernel
theorem own_deqS_41 : decode jdk_42_method_66_code 41 = .ok (.getfield 9, 3) := by decide +kernel
theorem own_deqS_44 : decode jdk_42_method_66_code 44 = .ok (.invokestatic 541, 3) := by decide +kernel
theorem own_deqS_47 : decode jdk_42_method_66_code 47 = .ok (.ifCond .eq 7, 3) := by decide +kernel
theorem own_deqS_50 : decode jdk_42_method_66_code 50 = .ok (.iconst 1, 1) := by decide +kernel
theorem own_deqS_51 : decode jdk_42_method_66_code 51 = .ok (.goto 4, 3) := by decide +kernel
theorem own_deqS_55 : decode jdk_42_method_66_code 55 = .ok (.ireturn, 1) := by decide +kernel
theorem own_efeqS (m : MethodId) (x0 : Addr) (x1 : Addr) : entryFrame m #[(.ref x0), (.ref x1)] 3 = mkF m 0 #[rv x0, rv x1, u_] [] := by first | (simp [entryFrame, mkF, argsToLocals, Value.category]; done) | rfl
def own_QeqS (Z : State) (a1 : Addr) (a2 : Addr) (b1a : Addr) (b2a : Addr) (k1 : ClassId) (k2 : ClassId) (G1 : Int32) (h0 : Heap) (n0 : Nat) : Option Value → Heap → List Loc → Prop := fun v h L => v = some (.int 1) ∧ Fr n0 L ∧ h = h0
def own_ReqS : Room := { frames := 1, cells := 0, slots := 0, locals := 14 }
set_option maxRecDepth 65536 in
set_option maxHeartbeats 40000000 in
theorem own_rmeqS (l : Launch) (Z : State) (a0 : Array Value) (hw : ∀ d ∈ tables_1, d.before a0 Z = true) (ws : List Jvm.Cond) (a1 : Addr) (a2 : Addr) (b1a : Addr) (b2a : Addr) (k1 : ClassId) (k2 : ClassId) (G1 : Int32) (h0 : Heap) (n0 : Nat) (Z0 : n0 ≤ h0.size) (E1 : Exa Z h0 a1 "java/lang/String") (E2 : Exa Z h0 a2 "java/lang/String") (C1 : Fld Z h0 a1 "java/lang/String" "coder" "B" (.int (0 : Int32))) (C2 : Fld Z h0 a2 "java/lang/String" "coder" "B" (.int (0 : Int32))) (V1 : Fld Z h0 a1 "java/lang/String" "value" "[B" (.ref b1a)) (V2 : Fld Z h0 a2 "java/lang/String" "value" "[B" (.ref b2a)) (A1 : Arv Z h0 b1a k1 .byte (8 : Int32) [(.int 115), (.int 116), (.int 97), (.int 110), (.int 100), (.int 97), (.int 114), (.int 100)] (.int (0 : Int32))) (A2 : Arv Z h0 b2a k2 .byte (8 : Int32) [(.int 115), (.int 116), (.int 97), (.int 110), (.int 100), (.int 97), (.int 114), (.int 100)] (.int (0 : Int32))) (SC : Sta Z h0 "java/lang/String" "COMPACT_STRINGS" "Z" (.int G1)) (hG : ¬ G1 = (0 : Int32)) :
    own_Met l Z own_y1 jdk_42_method_66_code 3 (some .boolean) ws own_ReqS h0 #[(.ref a1), (.ref a2)] (own_QeqS Z a1 a2 b1a b2a k1 k2 G1 h0 n0) own_ReqS.cells own_ReqS.slots := by
  refine own_start (plainFor_of_name own_pn1) ?_
  intro p e s m below meth c s₁ X0 hx hZ hby hml hret hlk hown hnm e0
  have hown : s.vm.findClass "java/lang/String" = some m.cls := hown
  have hml : c.maxLocals = 3 := hml
  have N0 := Fr.nil n0
  refine own_cast (own_efeqS m a1 a2) ?_
  refine own_s s₁ (mkF m 2 #[rv a1, rv a2, u_] [(.ref a2), (.ref a1)]) (fun _ k => XS.aloadN X0.here hx rfl (hb hby own_deqS_0) rfl rfl (XS.aloadN X0.here hx rfl (hb hby own_deqS_1) rfl rfl k)) ?_
  by_cases c2 : a1 = a2
  · refine own_s s₁ (mkF m 6 #[rv a1, rv a2, u_] [(.int 1)]) (fun _ k => Jvm.RoadKit.acmp (g := (mkF m 2 #[rv a1, rv a2, u_] [(.ref a2), (.ref a1)])) X0 hx rfl rfl rfl (pc0 := 2) (pc' := 5) (same := true) rfl (hb hby own_deqS_2) rfl (decide_eq_true (congrArg Value.ref c2)) (by decide) (by decide) (XS.iconst X0.here hx rfl (hb hby own_deqS_5) k)) ?_
    exact own_finZ X0 hx (t := .boolean) hret (by simp) (z' := (1 : Int32)) rfl (hb hby own_deqS_6) (own_end (Qv := (own_QeqS Z a1 a2 b1a b2a k1 k2 G1 h0 n0)) X0 (own_some hret) hlk (by decide) (by decide) e0 ⟨rfl, N0, rfl⟩)
  · refine own_s s₁ (mkF m 8 #[rv a1, rv a2, u_] [(.ref a2)]) (fun _ k => Jvm.RoadKit.acmp (g := (mkF m 2 #[rv a1, rv a2, u_] [(.ref a2), (.ref a1)])) X0 hx rfl rfl rfl (pc0 := 2) (pc' := 7) (same := false) rfl (hb hby own_deqS_2) rfl (decide_eq_false fun q => c2 (Value.ref.inj q)) (by decide) (by decide) (XS.aloadN X0.here hx rfl (hb hby own_deqS_7) rfl rfl k)) ?_
    obtain ⟨T1, X1, e1, st1⟩ := instY X0 hx hZ hown (own_h hw 30 rfl) e0 (Ins.self E2) (g := (mkF m 8 #[rv a1, rv a2, u_] [(.ref a2)])) rfl rfl (hb hby own_deqS_8)
    refine own_s T1 (mkF m 11 #[rv a1, rv a2, u_] [(.int 1)]) st1 ?_
    refine own_s T1 (mkF m 15 #[rv a1, rv a2, u_] [(.ref a2)]) (fun _ k => XS.ifNo X1.here hx rfl (hb hby own_deqS_11) rfl ((if0 _ _).trans (feq (by decide : ¬ ((1 : Int32) = (0 : Int32)))).1) (XS.aloadN X1.here hx rfl (hb hby own_deqS_14) rfl rfl k)) ?_
    obtain ⟨T2, X2, e2, st2⟩ := castY X1 hx hZ hown (own_h hw 30 rfl) e1 (Ins.self E2) (g := (mkF m 15 #[rv a1, rv a2, u_] [(.ref a2)])) rfl rfl (hb hby own_deqS_15)
    refine own_s T2 (mkF m 18 #[rv a1, rv a2, u_] [(.ref a2)]) st2 ?_
    refine own_s T2 (mkF m 19 #[rv a1, rv a2, rv a2] []) (fun _ k => XS.astoreN X2.here hx rfl (hb hby own_deqS_18) rfl rfl (l' := #[rv a1, rv a2, rv a2]) rfl k) ?_
    obtain ⟨T3, X3, e3, st3⟩ := getS2 X2 hx hZ hown (host := "") (Or.inl (own_h hw 32 rfl)) Via.refl e2 SC (g := (mkF m 19 #[rv a1, rv a2, rv a2] [])) rfl (hb hby own_deqS_19)
    refine own_s T3 (mkF m 22 #[rv a1, rv a2, rv a2] [(.int G1)]) st3 ?_
    refine own_s T3 (mkF m 26 #[rv a1, rv a2, rv a2] [(.ref a1)]) (fun _ k => XS.ifNo X3.here hx rfl (hb hby own_deqS_22) rfl ((if0 _ _).trans (feq hG).1) (XS.aloadN X3.here hx rfl (hb hby own_deqS_25) rfl rfl k)) ?_
    obtain ⟨T4, X4, e4, st4⟩ := getF X3 hx hZ hown (host := "") (Or.inl (own_h hw 33 rfl)) Via.refl e3 C1 (g := (mkF m 26 #[rv a1, rv a2, rv a2] [(.ref a1)])) rfl rfl (hb hby own_deqS_26)
    refine own_s T4 (mkF m 29 #[rv a1, rv a2, rv a2] [(.int 0)]) st4 ?_
    refine own_s T4 (mkF m 30 #[rv a1, rv a2, rv a2] [(.ref a2), (.int 0)]) (fun _ k => XS.aloadN X4.here hx rfl (hb hby own_deqS_29) rfl rfl k) ?_
    obtain ⟨T5, X5, e5, st5⟩ := getF X4 hx hZ hown (host := "") (Or.inl (own_h hw 33 rfl)) Via.refl e4 C2 (g := (mkF m 30 #[rv a1, rv a2, rv a2] [(.ref a2), (.int 0)])) rfl rfl (hb hby own_deqS_30)
    refine own_s T5 (mkF m 33 #[rv a1, rv a2, rv a2] [(.int 0), (.int 0)]) st5 ?_
    refine own_s T5 (mkF m 37 #[rv a1, rv a2, rv a2] [(.ref a1)]) (fun _ k => XS.icmpNo X5.here hx rfl (hb hby own_deqS_33) rfl (teq (by decide : ((0 : Int32) = (0 : Int32)))).2 (XS.aloadN X5.here hx rfl (hb hby own_deqS_36) rfl rfl k)) ?_
    obtain ⟨T6, X6, e6, st6⟩ := getF X5 hx hZ hown (host := "") (Or.inl (own_h hw 34 rfl)) Via.refl e5 V1 (g := (mkF m 37 #[rv a1, rv a2, rv a2] [(.ref a1)])) rfl rfl (hb hby own_deqS_37)
    refine own_s T6 (mkF m 40 #[rv a1, rv a2, rv a2] [(.ref b1a)]) st6 ?_
    refine own_s T6 (mkF m 41 #[rv a1, rv a2, rv a2] [(.ref a2), (.ref b1a)]) (fun _ k => XS.aloadN X6.here hx rfl (hb hby own_deqS_40) rfl rfl k) ?_
    obtain ⟨T7, X7, e7, st7⟩ := getF X6 hx hZ hown (host := "") (Or.inl (own_h hw 34 rfl)) Via.refl e6 V2 (g := (mkF m 41 #[rv a1, rv a2, rv a2] [(.ref a2), (.ref b1a)])) rfl rfl (hb hby own_deqS_41)
    refine own_s T7 (mkF m 44 #[rv a1, rv a2, rv a2] [(.ref b2a), (.ref b1a)]) st7 ?_
    obtain ⟨v8, T8, L8, X8, hQ8, st8⟩ := own_callS X7 hx hZ (y := own_y0) (W := 0) hown (own_h hw 35 rfl) (own_h hw 36 rfl) (own_h hw 37 rfl) (own_h hw 38 rfl) (by decide) (own_rmlqS l Z a0 hw [] b1a b2a k1 k2 h0 n0 Z0 A1 A2) (by decide) (by decide) (g := (mkF m 44 #[rv a1, rv a2, rv a2] [(.ref b2a), (.ref b1a)])) rfl (by rw [hml]; rfl) (argsL := [(.ref b1a), (.ref b2a)]) (rest := []) rfl (lenOf own_pd0 rfl) rfl (by show 2 * 0 + _ ≤ _; exact Nat.le_of_eq rfl) (hb hby own_deqS_44) e7 (by decide) (by decide)
    obtain ⟨rfl, Nq8, e8⟩ := hQ8
    have N8 := Fr.app N0 Nq8
    refine own_s T8 (mkF m 47 #[rv a1, rv a2, rv a2] [(.int 1)]) st8 ?_
    refine own_s T8 (mkF m 55 #[rv a1, rv a2, rv a2] [(.int 1)]) (fun _ k => XS.ifNo X8.here hx rfl (hb hby own_deqS_47) rfl ((if0 _ _).trans (feq (by decide : ¬ ((1 : Int32) = (0 : Int32)))).1) (XS.iconst X8.here hx rfl (hb hby own_deqS_50) (XS.goto X8.here hx rfl (pc0 := 51) (pc' := 55) rfl (hb hby own_deqS_51) (by decide) (by decide) k))) ?_
    exact own_finZ X8 hx (t := .boolean) hret (by simp) (z' := (1 : Int32)) rfl (hb hby own_deqS_55) (own_end (Qv := (own_QeqS Z a1 a2 b1a b2a k1 k2 G1 h0 n0)) X8 (own_some hret) hlk (by decide) (by decide) e8 ⟨rfl, N8, rfl⟩)
abbrev own_y2 : MethodName := ⟨"com/example/lintel/lintel/repository/RepositoryFile$Format", "recordsDigests", "()Z"⟩
theorem own_pn2 : plainName "com/example/lintel/lintel/repository/RepositoryFile$Format" = true := by first | (simp [plainName, overriddenIn]; done) | decide +kernel
theorem own_drcL_0 : decode prog_57_method_6_code 0 = .ok (.aload_n 0, 1) := by decide +kernel
theorem own_drcL_1 : decode prog_57_method_6_code 1 = .ok (.getstatic 7, 3) := by decide +kernel
theorem own_drcL_4 : decode prog_57_method_6_code 4 = .ok (.if_acmp .ne 7, 3) := by decide +kernel
theorem own_drcL_11 : decode prog_57_method_6_code 11 = .ok (.iconst 0, 1) := by decide +kernel
theorem own_drcL_12 : decode prog_57_method_6_code 12 = .ok (.ireturn, 1) := by decide +kernel
theorem own_efrcL (m : MethodId) (x0 : Addr) : entryFrame m #[(.ref x0)] 1 = mkF m 0 #[rv x0] [] := by first | (simp [entryFrame, mkF, argsToLocals, Value.category]; done) | rfl
def own_QrcL (Z : State) (a1 : Addr) (oS : Addr) (h0 : Heap) (n0 : Nat) : Option Value → Heap → List Loc → Prop := fun v h L => v = some (.int 0) ∧ Fr n0 L ∧ h = h0
def own_RrcL : Room := { frames := 0, cells := 0, slots := 0, locals := 0 }
set_option maxRecDepth 65536 in
set_option maxHeartbeats 40000000 in
theorem own_rmrcL (l : Launch) (Z : State) (a0 : Array Value) (hw : ∀ d ∈ tables_1, d.before a0 Z = true) (ws : List Jvm.Cond) (a1 : Addr) (oS : Addr) (h0 : Heap) (n0 : Nat) (Z0 : n0 ≤ h0.size) (SS : Sta Z h0 "com/example/lintel/lintel/repository/RepositoryFile$Format" "STANDARD" "Lcom/example/lintel/lintel/repository/RepositoryFile$Format;" (.ref oS)) (hq : a1 ≠ oS) :
    own_Met l Z own_y2 prog_57_method_6_code 1 (some .boolean) ws own_RrcL h0 #[(.ref a1)] (own_QrcL Z a1 oS h0 n0) own_RrcL.cells own_RrcL.slots := by
  refine own_start (plainFor_of_name own_pn2) ?_
  intro p e s m below meth c s₁ X0 hx hZ hby hml hret hlk hown hnm e0
  have hown : s.vm.findClass "com/example/lintel/lintel/repository/RepositoryFile$Format" = some m.cls := hown
  have hml : c.maxLocals = 1 := hml
  have N0 := Fr.nil n0
  refine own_cast (own_efrcL m a1) ?_
  refine own_s s₁ (mkF m 1 #[rv a1] [(.ref a1)]) (fun _ k => XS.aloadN X0.here hx rfl (hb hby own_drcL_0) rfl rfl k) ?_
  obtain ⟨T1, X1, e1, st1⟩ := getS2 X0 hx hZ hown (host := "") (Or.inl (own_h hw 8 rfl)) Via.refl e0 SS (g := (mkF m 1 #[rv a1] [(.ref a1)])) rfl (hb hby own_drcL_1)
  refine own_s T1 (mkF m 4 #[rv a1] [(.ref oS), (.ref a1)]) st1 ?_
  refine own_s T1 (mkF m 12 #[rv a1] [(.int 0)]) (fun _ k => Jvm.RoadKit.acmp (g := (mkF m 4 #[rv a1] [(.ref oS), (.ref a1)])) X1 hx rfl rfl rfl (pc0 := 4) (pc' := 11) (same := false) rfl (hb hby own_drcL_4) rfl (decide_eq_false fun q => hq (Value.ref.inj q)) (by decide) (by decide) (XS.iconst X1.here hx rfl (hb hby own_drcL_11) k)) ?_
  exact own_finZ X1 hx (t := .boolean) hret (by simp) (z' := (0 : Int32)) rfl (hb hby own_drcL_12) (own_end (Qv := (own_QrcL Z a1 oS h0 n0)) X1 (own_some hret) hlk (by decide) (by decide) e1 ⟨rfl, N0, rfl⟩)
theorem own_drcS_0 : decode prog_57_method_6_code 0 = .ok (.aload_n 0, 1) := by decide +kernel
theorem own_drcS_1 : decode prog_57_method_6_code 1 = .ok (.getstatic 7, 3) := by decide +kernel
theorem own_drcS_4 : decode prog_57_method_6_code 4 = .ok (.if_acmp .ne 7, 3) := by decide +kernel
theorem own_drcS_7 : decode prog_57_method_6_code 7 = .ok (.iconst 1, 1) := by decide +kernel
theorem own_drcS_8 : decode prog_57_method_6_code 8 = .ok (.goto 4, 3) := by decide +kernel
theorem own_drcS_12 : decode prog_57_method_6_code 12 = .ok (.ireturn, 1) := by decide +kernel
theorem own_efrcS (m : MethodId) (x0 : Addr) : entryFrame m #[(.ref x0)] 1 = mkF m 0 #[rv x0] [] := by first | (simp [entryFrame, mkF, argsToLocals, Value.category]; done) | rfl
def own_QrcS (Z : State) (a1 : Addr) (oS : Addr) (h0 : Heap) (n0 : Nat) : Option Value → Heap → List Loc → Prop := fun v h L => v = some (.int 1) ∧ Fr n0 L ∧ h = h0
def own_RrcS : Room := { frames := 0, cells := 0, slots := 0, locals := 0 }
set_option maxRecDepth 65536 in
set_option maxHeartbeats 40000000 in
theorem own_rmrcS (l : Launch) (Z : State) (a0 : Array Value) (hw : ∀ d ∈ tables_1, d.before a0 Z = true) (ws : List Jvm.Cond) (a1 : Addr) (oS : Addr) (h0 : Heap) (n0 : Nat) (Z0 : n0 ≤ h0.size) (SS : Sta Z h0 "com/example/lintel/lintel/repository/RepositoryFile$Format" "STANDARD" "Lcom/example/lintel/lintel/repository/RepositoryFile$Format;" (.ref oS)) (hq : a1 = oS) :
    own_Met l Z own_y2 prog_57_method_6_code 1 (some .boolean) ws own_RrcS h0 #[(.ref a1)] (own_QrcS Z a1 oS h0 n0) own_RrcS.cells own_RrcS.slots := by
  refine own_start (plainFor_of_name own_pn2) ?_
  intro p e s m below meth c s₁ X0 hx hZ hby hml hret hlk hown hnm e0
  have hown : s.vm.findClass "com/example/lintel/lintel/repository/RepositoryFile$Format" = some m.cls := hown
  have hml : c.maxLocals = 1 := hml
  have N0 := Fr.nil n0
  refine own_cast (own_efrcS m a1) ?_
  refine own_s s₁ (mkF m 1 #[rv a1] [(.ref a1)]) (fun _ k => XS.aloadN X0.here hx rfl (hb hby own_drcS_0) rfl rfl k) ?_
  obtain ⟨T1, X1, e1, st1⟩ := getS2 X0 hx hZ hown (host := "") (Or.inl (own_h hw 8 rfl)) Via.refl e0 SS (g := (mkF m 1 #[rv a1] [(.ref a1)])) rfl (hb hby own_drcS_1)
  refine own_s T1 (mkF m 4 #[rv a1] [(.ref oS), (.ref a1)]) st1 ?_
  refine own_s T1 (mkF m 12 #[rv a1] [(.int 1)]) (fun _ k => Jvm.RoadKit.acmp (g := (mkF m 4 #[rv a1] [(.ref oS), (.ref a1)])) X1 hx rfl rfl rfl (pc0 := 4) (pc' := 7) (same := true) rfl (hb hby own_drcS_4) rfl (decide_eq_true (congrArg Value.ref hq)) (by decide) (by decide) (XS.iconst X1.here hx rfl (hb hby own_drcS_7) (XS.goto X1.here hx rfl (pc0 := 8) (pc' := 12) rfl (hb hby own_drcS_8) (by decide) (by decide) k))) ?_
  exact own_finZ X1 hx (t := .boolean) hret (by simp) (z' := (1 : Int32)) rfl (hb hby own_drcS_12) (own_end (Qv := (own_QrcS Z a1 oS h0 n0)) X1 (own_some hret) hlk (by decide) (by decide) e1 ⟨rfl, N0, rfl⟩)
abbrev own_y3 : MethodName := ⟨"com/example/lintel/lintel/repository/RepositoryFile$Format", "word", "()Ljava/lang/String;"⟩
theorem own_dwd_0 : decode prog_57_method_5_code 0 = .ok (.aload_n 0, 1) := by decide +kernel
theorem own_dwd_1 : decode prog_57_method_5_code 1 = .ok (.getfield 29, 3) := by decide +kernel
theorem own_dwd_4 : decode prog_57_method_5_code 4 = .ok (.areturn, 1) := by decide +kernel
theorem own_efwd (m : MethodId) (x0 : Addr) : entryFrame m #[(.ref x0)] 1 = mkF m 0 #[rv x0] [] := by first | (simp [entryFrame, mkF, argsToLocals, Value.category]; done) | rfl
def own_Qwd (Z : State) (a1 : Addr) (w1 : Addr) (h0 : Heap) (n0 : Nat) : Option Value → Heap → List Loc → Prop := fun v h L => v = some (.ref w1) ∧ Fr n0 L ∧ h = h0
def own_Rwd : Room := { frames := 0, cells := 0, slots := 0, locals := 0 }
set_option maxRecDepth 65536 in
set_option maxHeartbeats 40000000 in
theorem own_rmwd (l : Launch) (Z : State) (a0 : Array Value) (hw : ∀ d ∈ tables_1, d.before a0 Z = true) (ws : List Jvm.Cond) (a1 : Addr) (w1 : Addr) (h0 : Heap) (n0 : Nat) (Z0 : n0 ≤ h0.size) (F1 : Fld Z h0 a1 "com/example/lintel/lintel/repository/RepositoryFile$Format" "word" "Ljava/lang/String;" (.ref w1)) :
    own_Met l Z own_y3 prog_57_method_5_code 1 (some (.object "java/lang/String")) ws own_Rwd h0 #[(.ref a1)] (own_Qwd Z a1 w1 h0 n0) own_Rwd.cells own_Rwd.slots := by
  refine own_start (plainFor_of_name own_pn2) ?_
  intro p e s m below meth c s₁ X0 hx hZ hby hml hret hlk hown hnm e0
  have hown : s.vm.findClass "com/example/lintel/lintel/repository/RepositoryFile$Format" = some m.cls := hown
  have hml : c.maxLocals = 1 := hml
  have N0 := Fr.nil n0
  refine own_cast (own_efwd m a1) ?_
  refine own_s s₁ (mkF m 1 #[rv a1] [(.ref a1)]) (fun _ k => XS.aloadN X0.here hx rfl (hb hby own_dwd_0) rfl rfl k) ?_
  obtain ⟨T1, X1, e1, st1⟩ := getF X0 hx hZ hown (host := "") (Or.inl (own_h hw 15 rfl)) Via.refl e0 F1 (g := (mkF m 1 #[rv a1] [(.ref a1)])) rfl rfl (hb hby own_dwd_1)
  refine own_s T1 (mkF m 4 #[rv a1] [(.ref w1)]) st1 ?_
  exact own_finA X1 hx hret rfl rfl (hb hby own_dwd_4) (own_end (Qv := (own_Qwd Z a1 w1 h0 n0)) X1 (own_some hret) hlk (by decide) (by decide) e1 ⟨rfl, N0, rfl⟩)
theorem own_pd1 : parseMethodDescriptor "()Z" = some ⟨[], some .boolean⟩ := by decide +kernel
theorem own_pd2 : parseMethodDescriptor "()Ljava/lang/String;" = some ⟨[], some (.object "java/lang/String")⟩ := by decide +kernel
theorem own_pd3 : parseMethodDescriptor "(Ljava/lang/Object;)Z" = some ⟨[(.object "java/lang/Object")], some .boolean⟩ := by decide +kernel
theorem own_pn3 : plainName "com/example/lintel/lintel/repository/FormatRecordsDigestsPinLaw" = true := by first | (simp [plainName, overriddenIn]; done) | decide +kernel
theorem own_ef0 (m : MethodId) (x0 : Int32) : entryFrame m #[(.int x0)] maxLocals = mkF m 0 #[iv x0, u_, u_, u_, u_] [] := by first | (simp [entryFrame, mkF, argsToLocals, Value.category, maxLocals]; done) | rfl
def own_Q0 (Z : State) (p1 : Int32) (oL : Addr) (oS : Addr) (wL : Addr) (wS : Addr) (bL : Addr) (bS : Addr) (kL : ClassId) (kS : ClassId) (G1 : Int32) (h0 : Heap) (n0 : Nat) : Option Value → Heap → Vm → List Loc → Prop := fun v h vm L => v = some (.int 1) ∧ Fr n0 L
set_option maxRecDepth 65536 in
set_option maxHeartbeats 40000000 in
theorem own_rm0 (l : Launch) (Z : State) (a0 : Array Value) (hw : ∀ d ∈ tables_1, d.before a0 Z = true) (ws : List Jvm.Cond) (p1 : Int32) (oL : Addr) (oS : Addr) (wL : Addr) (wS : Addr) (bL : Addr) (bS : Addr) (kL : ClassId) (kS : ClassId) (G1 : Int32) (h0 : Heap) (n0 : Nat) (Z0 : n0 ≤ h0.size) (SL : Sta Z h0 "com/example/lintel/lintel/repository/RepositoryFile$Format" "LINTEL" "Lcom/example/lintel/lintel/repository/RepositoryFile$Format;" (.ref oL)) (EL : Exa Z h0 oL "com/example/lintel/lintel/repository/RepositoryFile$Format") (WL : Fld Z h0 oL "com/example/lintel/lintel/repository/RepositoryFile$Format" "word" "Ljava/lang/String;" (.ref wL)) (YL : Exa Z h0 wL "java/lang/String") (CL : Fld Z h0 wL "java/lang/String" "coder" "B" (.int (0 : Int32))) (VL : Fld Z h0 wL "java/lang/String" "value" "[B" (.ref bL)) (AL : Arv Z h0 bL kL .byte (6 : Int32) [(.int 108), (.int 105), (.int 110), (.int 116), (.int 101), (.int 108)] (.int (0 : Int32))) (SS : Sta Z h0 "com/example/lintel/lintel/repository/RepositoryFile$Format" "STANDARD" "Lcom/example/lintel/lintel/repository/RepositoryFile$Format;" (.ref oS)) (ES : Exa Z h0 oS "com/example/lintel/lintel/repository/RepositoryFile$Format") (WS : Fld Z h0 oS "com/example/lintel/lintel/repository/RepositoryFile$Format" "word" "Ljava/lang/String;" (.ref wS)) (YS : Exa Z h0 wS "java/lang/String") (CS : Fld Z h0 wS "java/lang/String" "coder" "B" (.int (0 : Int32))) (VS : Fld Z h0 wS "java/lang/String" "value" "[B" (.ref bS)) (AS : Arv Z h0 bS kS .byte (8 : Int32) [(.int 115), (.int 116), (.int 97), (.int 110), (.int 100), (.int 97), (.int 114), (.int 100)] (.int (0 : Int32))) (SC : Sta Z h0 "java/lang/String" "COMPACT_STRINGS" "Z" (.int G1)) (hG : ¬ G1 = (0 : Int32)) (hne : oL ≠ oS) (hz0 : Z.heap = h0) (hn0 : n0 = h0.size) (hh : Jvm.Lit.constHeld Z "com/example/lintel/lintel/repository/FormatRecordsDigestsPinLaw" 24) (hcw : Jvm.Lit.compactW.before a0 Z = true) :
    own_MetW l Z x code maxLocals ret ws room_1 h0 (fun vm => IB Z vm []) #[(.int p1)] (own_Q0 Z p1 oL oS wL wS bL bS kL kS G1 h0 n0) 8 1088 := by
  refine own_startW (plainFor_of_name own_pn3) ?_
  intro p e s m below meth c s₁ X0 hx hZ hby hml hret hlk hown hnm e0 hS hs0 hJ
  have hk0 : 0 ≤ h0.size := Nat.zero_le _
  have hown : s.vm.findClass "com/example/lintel/lintel/repository/FormatRecordsDigestsPinLaw" = some m.cls := hown
  have hml : c.maxLocals = 5 := hml
  have N0 := Fr.nil n0
  refine own_cast (own_ef0 m p1) ?_
  refine own_s s₁ (mkF m 3 #[iv p1, u_, u_, u_, u_] [(.int (p1 &&& (1 : Int32)))]) (fun _ k => XS.iloadN X0.here hx rfl (hb hby at_0) rfl  (XS.iconst X0.here hx rfl (hb hby at_1) (XS.iand X0.here hx rfl (hb hby at_2) rfl k))) ?_
  by_cases c3 : (p1 &&& (1 : Int32)) = (0 : Int32)
  · refine own_s s₁ (mkF m 22 #[iv p1, iv 0, u_, u_, u_] []) (fun _ k => XS.ifYes X0.here hx rfl (pc0 := 3) (pc' := 10) rfl (hb hby at_3) rfl ((if0 _ _).trans (teq c3).1) (by decide) (by decide) (XS.iconst X0.here hx rfl (hb hby at_10) (XS.istoreN X0.here hx rfl (hb hby at_11) rfl (l' := #[iv p1, iv 0, u_, u_, u_]) rfl (XS.iloadN X0.here hx rfl (hb hby at_12) rfl  (XS.ifYes X0.here hx rfl (pc0 := 13) (pc' := 22) rfl (hb hby at_13) rfl ((if0 _ _).trans (teq (by decide : ((0 : Int32) = (0 : Int32)))).1) (by decide) (by decide) k))))) ?_
    obtain ⟨T1, X1, e1, st1⟩ := getS2 X0 hx hZ hown (host := "") (Or.inl (own_h hw 0 rfl)) Via.refl e0 SL (g := (mkF m 22 #[iv p1, iv 0, u_, u_, u_] [])) rfl (hb hby at_22)
    refine own_s T1 (mkF m 25 #[iv p1, iv 0, u_, u_, u_] [(.ref oL)]) st1 ?_
    refine own_s T1 (mkF m 27 #[iv p1, iv 0, rv oL, u_, u_] [(.ref oL)]) (fun _ k => XS.astoreN X1.here hx rfl (hb hby at_25) rfl rfl (l' := #[iv p1, iv 0, rv oL, u_, u_]) rfl (XS.aloadN X1.here hx rfl (hb hby at_26) rfl rfl k)) ?_
    obtain ⟨v2, T2, L2, X2, hQ2, st2⟩ := own_callV X1 hx hZ (y := own_y2) (z := own_y2) (W := 0) (a := oL) hown (own_h hw 3 rfl) (own_h hw 4 rfl) (notFace_of_selects (args := #[]) (mvT hZ (own_h hw 6 rfl))) (own_h hw 6 rfl) (own_h hw 5 rfl) (own_h hw 1 rfl) (own_h hw 7 rfl) (by decide) (own_rmrcL l Z a0 hw [] oL oS h0 n0 Z0 SS hne) (by decide) (by decide) EL (g := (mkF m 27 #[iv p1, iv 0, rv oL, u_, u_] [(.ref oL)])) rfl (by rw [hml]; rfl) (argsL := []) (rest := []) rfl (lenOf own_pd1 rfl) rfl (by show 2 * 0 + _ ≤ _; exact Nat.le_of_eq rfl) (hb hby at_27) e1 (by decide) (by decide)
    obtain ⟨rfl, Nq2, e2⟩ := hQ2
    have N2 := Fr.app N0 Nq2
    refine own_s T2 (mkF m 30 #[iv p1, iv 0, rv oL, u_, u_] [(.int 0)]) st2 ?_
    refine own_s T2 (mkF m 32 #[iv p1, iv 0, rv oL, iv 0, u_] [(.ref oL)]) (fun _ k => XS.istoreN X2.here hx rfl (hb hby at_30) rfl (l' := #[iv p1, iv 0, rv oL, iv 0, u_]) rfl (XS.aloadN X2.here hx rfl (hb hby at_31) rfl rfl k)) ?_
    obtain ⟨v3, T3, L3, X3, hQ3, st3⟩ := own_callV X2 hx hZ (y := own_y3) (z := own_y3) (W := 0) (a := oL) hown (own_h hw 10 rfl) (own_h hw 11 rfl) (notFace_of_selects (args := #[]) (mvT hZ (own_h hw 13 rfl))) (own_h hw 13 rfl) (own_h hw 12 rfl) (own_h hw 1 rfl) (own_h hw 14 rfl) (by decide) (own_rmwd l Z a0 hw [] oL wL h0 n0 Z0 WL) (by decide) (by decide) EL (g := (mkF m 32 #[iv p1, iv 0, rv oL, iv 0, u_] [(.ref oL)])) rfl (by rw [hml]; rfl) (argsL := []) (rest := []) rfl (lenOf own_pd2 rfl) rfl (by show 2 * 0 + _ ≤ _; exact Nat.le_of_eq rfl) (hb hby at_32) e2 (by decide) (by decide)
    obtain ⟨rfl, Nq3, e3⟩ := hQ3
    have N3 := Fr.app N2 Nq3
    refine own_s T3 (mkF m 35 #[iv p1, iv 0, rv oL, iv 0, u_] [(.ref wL)]) st3 ?_
    obtain ⟨sl4, T4, h4, kk4, bb4, kb4, X4, e4, E4, hS, hk4, hZ, hown, Ex4, Fc4, Fv4, Av4, -, -, -, st4⟩ := ldcSV (s := s) X3 hx hZ hown (own_h hw 17 rfl) (own_wS hw) e3 hS hk0 (by rw [hs0, ← hn0]; exact N3) (fun b cl q => by rw [hs0, ← hz0]; exact q) hJ (by simp) hh hcw (vs := [(.int 115), (.int 116), (.int 97), (.int 110), (.int 100), (.int 97), (.int 114), (.int 100)]) (z := (8 : Int32)) ⟨by decide, by decide⟩ (by decide) rfl (g := (mkF m 35 #[iv p1, iv 0, rv oL, iv 0, u_] [(.ref wL)])) rfl (hb hby at_35) (n := 32) (by decide) (by decide) (by decide) (by decide)
    have f5 := Sta.ext E4 SL
    have f6 := Exa.ext E4 EL
    have f7 := Fld.ext E4 WL
    have f8 := Exa.ext E4 YL
    have f9 := Fld.ext E4 CL
    have f10 := Fld.ext E4 VL
    have f11 := AL.ext E4
    have f12 := Sta.ext E4 SS
    have f13 := Exa.ext E4 ES
    have f14 := Fld.ext E4 WS
    have f15 := Exa.ext E4 YS
    have f16 := Fld.ext E4 CS
    have f17 := Fld.ext E4 VS
    have f18 := AS.ext E4
    have f19 := Sta.ext E4 SC
    have Z4 := Nat.le_trans Z0 E4.1
    refine own_s T4 (mkF m 37 #[iv p1, iv 0, rv oL, iv 0, u_] [(.ref sl4), (.ref wL)]) st4 ?_
    obtain ⟨v20, T20, L20, X20, hQ20, st20⟩ := own_callV X4 hx hZ (y := own_y1) (z := own_y1) (W := 0) (a := wL) hown (own_h hw 25 rfl) (own_h hw 26 rfl) (notFace_of_selects (args := #[]) (mvT hZ (own_h hw 28 rfl))) (own_h hw 28 rfl) (own_h hw 27 rfl) (own_h hw 18 rfl) (own_h hw 29 rfl) (by decide) (own_rmeqL l Z a0 hw [] wL sl4 bL bb4 kL kb4 G1 h4 n0 Z4 f8 Ex4 f9 Fc4 f10 Fv4 f11 Av4 f19 hG) (by decide) (by decide) f8 (g := (mkF m 37 #[iv p1, iv 0, rv oL, iv 0, u_] [(.ref sl4), (.ref wL)])) rfl (by rw [hml]; rfl) (argsL := [(.ref sl4)]) (rest := []) rfl (lenOf own_pd3 rfl) rfl (by show 2 * 0 + _ ≤ _; exact Nat.le_of_eq rfl) (hb hby at_37) e4 (by decide) (by decide)
    obtain ⟨rfl, Nq20, e20⟩ := hQ20
    have N20 := Fr.app N3 Nq20
    refine own_s T20 (mkF m 40 #[iv p1, iv 0, rv oL, iv 0, u_] [(.int 0)]) st20 ?_
    refine own_s T20 (mkF m 48 #[iv p1, iv 0, rv oL, iv 0, iv 0] [(.int 0)]) (fun _ k => XS.istore X20.here hx rfl (hb hby at_40) rfl (l' := #[iv p1, iv 0, rv oL, iv 0, iv 0]) rfl (XS.iloadN X20.here hx rfl (hb hby at_42) rfl  (XS.iloadN X20.here hx rfl (hb hby at_43) rfl  (XS.icmpNo X20.here hx rfl (hb hby at_44) rfl (teq (by decide : ((0 : Int32) = (0 : Int32)))).2 (XS.iloadN X20.here hx rfl (hb hby at_47) rfl  k))))) ?_
    refine own_s T20 (mkF m 58 #[iv p1, iv 0, rv oL, iv 0, iv 0] [(.int 1)]) (fun _ k => XS.iload X20.here hx rfl (hb hby at_48) rfl  (XS.icmpNo X20.here hx rfl (hb hby at_50) rfl (teq (by decide : ((0 : Int32) = (0 : Int32)))).2 (XS.iconst X20.here hx rfl (hb hby at_53) (XS.goto X20.here hx rfl (pc0 := 54) (pc' := 58) rfl (hb hby at_54) (by decide) (by decide) k)))) ?_
    exact own_finZ X20 hx (t := .boolean) hret (by simp) (z' := (1 : Int32)) rfl (hb hby at_58) (own_endW (Qv := (own_Q0 Z p1 oL oS wL wS bL bS kL kS G1 h0 n0)) X20 hS (own_some hret) hlk (by decide) (by decide) e20 hk4 (fun vm' hv' => ⟨rfl, N20⟩))
  · refine own_s s₁ (mkF m 13 #[iv p1, iv 1, u_, u_, u_] [(.int 1)]) (fun _ k => XS.ifNo X0.here hx rfl (hb hby at_3) rfl ((if0 _ _).trans (feq c3).1) (XS.iconst X0.here hx rfl (hb hby at_6) (XS.goto X0.here hx rfl (pc0 := 7) (pc' := 11) rfl (hb hby at_7) (by decide) (by decide) (XS.istoreN X0.here hx rfl (hb hby at_11) rfl (l' := #[iv p1, iv 1, u_, u_, u_]) rfl (XS.iloadN X0.here hx rfl (hb hby at_12) rfl  k))))) ?_
    refine own_s s₁ (mkF m 16 #[iv p1, iv 1, u_, u_, u_] []) (fun _ k => XS.ifNo X0.here hx rfl (hb hby at_13) rfl ((if0 _ _).trans (feq (by decide : ¬ ((1 : Int32) = (0 : Int32)))).1) k) ?_
    obtain ⟨T21, X21, e21, st21⟩ := getS2 X0 hx hZ hown (host := "") (Or.inl (own_h hw 39 rfl)) Via.refl e0 SS (g := (mkF m 16 #[iv p1, iv 1, u_, u_, u_] [])) rfl (hb hby at_16)
    refine own_s T21 (mkF m 19 #[iv p1, iv 1, u_, u_, u_] [(.ref oS)]) st21 ?_
    refine own_s T21 (mkF m 27 #[iv p1, iv 1, rv oS, u_, u_] [(.ref oS)]) (fun _ k => XS.goto X21.here hx rfl (pc0 := 19) (pc' := 25) rfl (hb hby at_19) (by decide) (by decide) (XS.astoreN X21.here hx rfl (hb hby at_25) rfl rfl (l' := #[iv p1, iv 1, rv oS, u_, u_]) rfl (XS.aloadN X21.here hx rfl (hb hby at_26) rfl rfl k))) ?_
    obtain ⟨v22, T22, L22, X22, hQ22, st22⟩ := own_callV X21 hx hZ (y := own_y2) (z := own_y2) (W := 0) (a := oS) hown (own_h hw 3 rfl) (own_h hw 4 rfl) (notFace_of_selects (args := #[]) (mvT hZ (own_h hw 6 rfl))) (own_h hw 6 rfl) (own_h hw 5 rfl) (own_h hw 1 rfl) (own_h hw 7 rfl) (by decide) (own_rmrcS l Z a0 hw [] oS oS h0 n0 Z0 SS rfl) (by decide) (by decide) ES (g := (mkF m 27 #[iv p1, iv 1, rv oS, u_, u_] [(.ref oS)])) rfl (by rw [hml]; rfl) (argsL := []) (rest := []) rfl (lenOf own_pd1 rfl) rfl (by show 2 * 0 + _ ≤ _; exact Nat.le_of_eq rfl) (hb hby at_27) e21 (by decide) (by decide)
    obtain ⟨rfl, Nq22, e22⟩ := hQ22
    have N22 := Fr.app N0 Nq22
    refine own_s T22 (mkF m 30 #[iv p1, iv 1, rv oS, u_, u_] [(.int 1)]) st22 ?_
    refine own_s T22 (mkF m 32 #[iv p1, iv 1, rv oS, iv 1, u_] [(.ref oS)]) (fun _ k => XS.istoreN X22.here hx rfl (hb hby at_30) rfl (l' := #[iv p1, iv 1, rv oS, iv 1, u_]) rfl (XS.aloadN X22.here hx rfl (hb hby at_31) rfl rfl k)) ?_
    obtain ⟨v23, T23, L23, X23, hQ23, st23⟩ := own_callV X22 hx hZ (y := own_y3) (z := own_y3) (W := 0) (a := oS) hown (own_h hw 10 rfl) (own_h hw 11 rfl) (notFace_of_selects (args := #[]) (mvT hZ (own_h hw 13 rfl))) (own_h hw 13 rfl) (own_h hw 12 rfl) (own_h hw 1 rfl) (own_h hw 14 rfl) (by decide) (own_rmwd l Z a0 hw [] oS wS h0 n0 Z0 WS) (by decide) (by decide) ES (g := (mkF m 32 #[iv p1, iv 1, rv oS, iv 1, u_] [(.ref oS)])) rfl (by rw [hml]; rfl) (argsL := []) (rest := []) rfl (lenOf own_pd2 rfl) rfl (by show 2 * 0 + _ ≤ _; exact Nat.le_of_eq rfl) (hb hby at_32) e22 (by decide) (by decide)
    obtain ⟨rfl, Nq23, e23⟩ := hQ23
    have N23 := Fr.app N22 Nq23
    refine own_s T23 (mkF m 35 #[iv p1, iv 1, rv oS, iv 1, u_] [(.ref wS)]) st23 ?_
    obtain ⟨sl24, T24, h24, kk24, bb24, kb24, X24, e24, E24, hS, hk24, hZ, hown, Ex24, Fc24, Fv24, Av24, -, -, -, st24⟩ := ldcSV (s := s) X23 hx hZ hown (own_h hw 17 rfl) (own_wS hw) e23 hS hk0 (by rw [hs0, ← hn0]; exact N23) (fun b cl q => by rw [hs0, ← hz0]; exact q) hJ (by simp) hh hcw (vs := [(.int 115), (.int 116), (.int 97), (.int 110), (.int 100), (.int 97), (.int 114), (.int 100)]) (z := (8 : Int32)) ⟨by decide, by decide⟩ (by decide) rfl (g := (mkF m 35 #[iv p1, iv 1, rv oS, iv 1, u_] [(.ref wS)])) rfl (hb hby at_35) (n := 32) (by decide) (by decide) (by decide) (by decide)
    have f25 := Sta.ext E24 SL
    have f26 := Exa.ext E24 EL
    have f27 := Fld.ext E24 WL
    have f28 := Exa.ext E24 YL
    have f29 := Fld.ext E24 CL
    have f30 := Fld.ext E24 VL
    have f31 := AL.ext E24
    have f32 := Sta.ext E24 SS
    have f33 := Exa.ext E24 ES
    have f34 := Fld.ext E24 WS
    have f35 := Exa.ext E24 YS
    have f36 := Fld.ext E24 CS
    have f37 := Fld.ext E24 VS
    have f38 := AS.ext E24
    have f39 := Sta.ext E24 SC
    have Z24 := Nat.le_trans Z0 E24.1
    refine own_s T24 (mkF m 37 #[iv p1, iv 1, rv oS, iv 1, u_] [(.ref sl24), (.ref wS)]) st24 ?_
    obtain ⟨v40, T40, L40, X40, hQ40, st40⟩ := own_callV X24 hx hZ (y := own_y1) (z := own_y1) (W := 0) (a := wS) hown (own_h hw 25 rfl) (own_h hw 26 rfl) (notFace_of_selects (args := #[]) (mvT hZ (own_h hw 28 rfl))) (own_h hw 28 rfl) (own_h hw 27 rfl) (own_h hw 18 rfl) (own_h hw 29 rfl) (by decide) (own_rmeqS l Z a0 hw [] wS sl24 bS bb24 kS kb24 G1 h24 n0 Z24 f35 Ex24 f36 Fc24 f37 Fv24 f38 Av24 f39 hG) (by decide) (by decide) f35 (g := (mkF m 37 #[iv p1, iv 1, rv oS, iv 1, u_] [(.ref sl24), (.ref wS)])) rfl (by rw [hml]; rfl) (argsL := [(.ref sl24)]) (rest := []) rfl (lenOf own_pd3 rfl) rfl (by show 2 * 0 + _ ≤ _; exact Nat.le_of_eq rfl) (hb hby at_37) e24 (by decide) (by decide)
    obtain ⟨rfl, Nq40, e40⟩ := hQ40
    have N40 := Fr.app N23 Nq40
    refine own_s T40 (mkF m 40 #[iv p1, iv 1, rv oS, iv 1, u_] [(.int 1)]) st40 ?_
    refine own_s T40 (mkF m 48 #[iv p1, iv 1, rv oS, iv 1, iv 1] [(.int 1)]) (fun _ k => XS.istore X40.here hx rfl (hb hby at_40) rfl (l' := #[iv p1, iv 1, rv oS, iv 1, iv 1]) rfl (XS.iloadN X40.here hx rfl (hb hby at_42) rfl  (XS.iloadN X40.here hx rfl (hb hby at_43) rfl  (XS.icmpNo X40.here hx rfl (hb hby at_44) rfl (teq (by decide : ((1 : Int32) = (1 : Int32)))).2 (XS.iloadN X40.here hx rfl (hb hby at_47) rfl  k))))) ?_
    refine own_s T40 (mkF m 58 #[iv p1, iv 1, rv oS, iv 1, iv 1] [(.int 1)]) (fun _ k => XS.iload X40.here hx rfl (hb hby at_48) rfl  (XS.icmpNo X40.here hx rfl (hb hby at_50) rfl (teq (by decide : ((1 : Int32) = (1 : Int32)))).2 (XS.iconst X40.here hx rfl (hb hby at_53) (XS.goto X40.here hx rfl (pc0 := 54) (pc' := 58) rfl (hb hby at_54) (by decide) (by decide) k)))) ?_
    exact own_finZ X40 hx (t := .boolean) hret (by simp) (z' := (1 : Int32)) rfl (hb hby at_58) (own_endW (Qv := (own_Q0 Z p1 oL oS wL wS bL bS kL kS G1 h0 n0)) X40 hS (own_some hret) hlk (by decide) (by decide) e40 hk24 (fun vm' hv' => ⟨rfl, N40⟩))
set_option maxRecDepth 65536 in
set_option maxHeartbeats 40000000 in
theorem comes_1 {Post : Tables → Env → Array Value → State → Outcome → State → Prop} (hpost : ∀ tb e args s v u, (limb_1_1.after args s (.returned v) u = true ∧ limb_1_2.after args s (.returned v) u = true ∧ True) → ReturnedEndW s (.returned v) u (Jvm.fieldLocs frame_1_writes args s ++ Jvm.arrayLocs frame_1_arrays args s ++ Jvm.staticLocs frame_1_statics s) 8 1088 → Post tb e args s (.returned v) u) :
    ArmFor flags0 classFile x code maxLocals ret World_1 tables_1 room_1 Calls_1 rest_1 Pre_1 Post := by
  intro l hfl _ _ p e ha hc hk s m args below hf hA hF happ hP
  obtain ⟨hcalls, hrest, hpre⟩ := hP
  obtain ⟨-, -, -, hnamed, -, -, -, hat⟩ := (Spec.applies_iff hf).mp happ
  obtain ⟨hg, hn⟩ := and_e (Cond.before_iff.mp (show (Jvm.Cond.and given_1 narrow_1).before args s = true from hpre))
  obtain ⟨g1, g2⟩ := and_e hg
  obtain ⟨w0, rfl⟩ : ∃ w0 : Value, args = #[w0] := by
    have hs : args.size = 1 := by simpa [Cond.value, given_1] using g1
    obtain ⟨L⟩ := args
    match L, hs with
    | [w0], _ => exact ⟨w0, rfl⟩
  have hw := fun d (hd : d ∈ tables_1) => atoms_spec (ws := Jvm.Cond.code x code maxLocals ret :: tables_1) hat d (List.mem_cons_of_mem _ hd)
  have hfit : Fit s := fun {y c} hc i hi => by
    obtain ⟨ha, rfl⟩ := Array.getElem?_eq_some_iff.mp hc
    have q := List.all_eq_true.mp ((Array.all_eq_true_iff_forall_mem.mp hF) _ (Array.getElem_mem ha)) i (List.mem_range.mpr hi)
    simpa [Array.getElem?_eq_getElem hi] using q
  obtain ⟨hsets, hown0⟩ := atoms_of _ (rest_1_c_eq ▸ (show rest_1_c.before _ s = true from hrest))
  have hr0 := Cond.before_iff.mp hown0
  obtain ⟨i0, ei0⟩ := is_v g2
  obtain rfl : w0 = (.int i0) := Option.some.inj ei0
  obtain ⟨nEL, hn⟩ := and_e hn
  obtain ⟨nES, hn⟩ := and_e hn
  obtain ⟨nOL, hn⟩ := and_e hn
  obtain ⟨nOS, hn⟩ := and_e hn
  obtain ⟨nXL, hn⟩ := and_e hn
  obtain ⟨nCL, hn⟩ := and_e hn
  obtain ⟨nAL, hn⟩ := and_e hn
  obtain ⟨nNL, hn⟩ := and_e hn
  obtain ⟨nXS, hn⟩ := and_e hn
  obtain ⟨nCS, hn⟩ := and_e hn
  obtain ⟨nAS, hn⟩ := and_e hn
  obtain ⟨nNS, hn⟩ := and_e hn
  obtain ⟨nl0, hn⟩ := and_e hn
  obtain ⟨nl1, hn⟩ := and_e hn
  obtain ⟨nl2, hn⟩ := and_e hn
  obtain ⟨nl3, hn⟩ := and_e hn
  obtain ⟨nl4, hn⟩ := and_e hn
  obtain ⟨nl5, hn⟩ := and_e hn
  obtain ⟨ns0, hn⟩ := and_e hn
  obtain ⟨ns1, hn⟩ := and_e hn
  obtain ⟨ns2, hn⟩ := and_e hn
  obtain ⟨ns3, hn⟩ := and_e hn
  obtain ⟨ns4, hn⟩ := and_e hn
  obtain ⟨ns5, hn⟩ := and_e hn
  obtain ⟨ns6, hn⟩ := and_e hn
  have ns7 := hn
  obtain ⟨oL, evL⟩ := exa_v nEL
  have EL := Exa.start evL nEL
  have SL := Sta.start evL (Or.inr ⟨(own_h hw 1 rfl), (own_h hw 2 rfl)⟩)
  have OL := own_fldAt nOL evL
  obtain ⟨wL, ewL⟩ := exa_v nXL
  have WL := own_fldR evL ewL
  have YL := Exa.start ewL nXL
  have CL := own_fldAt nCL ewL
  obtain ⟨bL, ebL⟩ := arr_v nAL
  have VL := own_fldR ewL ebL
  obtain ⟨cL, RL⟩ := Arr.start ebL nAL
  obtain ⟨lzL, lsL⟩ := own_lenAt nNL ebL RL
  have AL := Arv.start (vs := [(.int 108), (.int 105), (.int 110), (.int 116), (.int 101), (.int 108)]) (dv := .int 0) hfit RL lzL lsL (by decide) rfl ⟨own_elemI nl0 ebL RL.1 rfl, own_elemI nl1 ebL RL.1 rfl, own_elemI nl2 ebL RL.1 rfl, own_elemI nl3 ebL RL.1 rfl, own_elemI nl4 ebL RL.1 rfl, own_elemI nl5 ebL RL.1 rfl, trivial⟩
  obtain ⟨oS, evS⟩ := exa_v nES
  have ES := Exa.start evS nES
  have SS := Sta.start evS (Or.inr ⟨(own_h hw 1 rfl), (own_h hw 9 rfl)⟩)
  have OS := own_fldAt nOS evS
  obtain ⟨wS, ewS⟩ := exa_v nXS
  have WS := own_fldR evS ewS
  have YS := Exa.start ewS nXS
  have CS := own_fldAt nCS ewS
  obtain ⟨bS, ebS⟩ := arr_v nAS
  have VS := own_fldR ewS ebS
  obtain ⟨cS, RS⟩ := Arr.start ebS nAS
  obtain ⟨lzS, lsS⟩ := own_lenAt nNS ebS RS
  have AS := Arv.start (vs := [(.int 115), (.int 116), (.int 97), (.int 110), (.int 100), (.int 97), (.int 114), (.int 100)]) (dv := .int 0) hfit RS lzS lsS (by decide) rfl ⟨own_elemI ns0 ebS RS.1 rfl, own_elemI ns1 ebS RS.1 rfl, own_elemI ns2 ebS RS.1 rfl, own_elemI ns3 ebS RS.1 rfl, own_elemI ns4 ebS RS.1 rfl, own_elemI ns5 ebS RS.1 rfl, own_elemI ns6 ebS RS.1 rfl, own_elemI ns7 ebS RS.1 rfl, trivial⟩
  have hne : oL ≠ oS := Fld.ne OL OS (by decide)
  obtain ⟨G1, SC, eG⟩ := own_staI (Cond.before_iff.mp (hsets _ (List.mem_of_getElem? (i := 1) rfl))) (hsets _ (List.mem_of_getElem? (i := 0) rfl))
  have hG := own_not0 eG (Cond.before_iff.mp (hsets _ (List.mem_of_getElem? (i := 2) rfl)))
  have hcw : Jvm.Lit.compactW.before _ s = true := hsets _ (List.mem_of_getElem? (i := 2) rfl)
  have hh : Jvm.Lit.constHeld s "com/example/lintel/lintel/repository/FormatRecordsDigestsPinLaw" 24 := hcalls.1 ("com/example/lintel/lintel/repository/FormatRecordsDigestsPinLaw", 24) (by simp [consts_1])
  obtain ⟨n, o, h1, h2, h3, _, L, rfl, ⟨rfl, N⟩, hq⟩ := own_rm0 l s _ hw tables_1 i0 oL oS wL wS bL bS cL.cls cS.cls G1 s.heap s.heap.size (Nat.le_refl _) SL EL WL YL CL VL AL SS ES WS YS CS VS AS SC hG hne rfl rfl hh hcw p e ha hc hk s m _ below hf ((Spec.applies_iff_loose hf).mp happ).1 ⟨rfl, State.Warmed39.refl s, rfl, IB.start⟩ trivial
  refine ⟨n, _, h1, h2, h3, hpost _ _ _ _ _ _ ⟨Cond.after_iff.mpr rfl, Cond.after_iff.mpr (eq_i res_at (Term.int_eval (1)) rfl), trivial⟩ ⟨hq.1, hq.2.1, hq.2.2.1, (hq.2.2.2.sift fun y hy => Or.inr (N y hy)).mono (by decide) (by decide)⟩⟩
theorem main_1_1 : Claimed_1_1 := comes_1 fun _ _ _ _ _ _ h hF => ⟨h.1, hF⟩
theorem main_1_2 : Claimed_1_2 := comes_1 fun _ _ _ _ _ _ h hF => ⟨h.2.1, hF⟩
end Jvm.Pilot.@@N@@
namespace Jvm.Pilot.@@N@@
open Jvm Jvm.ClassFile Sem Op Lib Jvm.Free Jvm.Stand Jvm.Pilot.@@N@@.Jvm.D
/-! MADE BY PROGRAM (witnessworld.py) out of the Statement's table words and the real class files: 18 classes; the members and pool entries that the words name. The judged class is class 1, her method 1. -/
namespace start1
open Jvm.ClassFile
def u (s : String) : CpInfo := .utf8 (stringToUtf16 s)
/-- a pool by its gaps: so many unusable entries, then the entry; so many at the end -/
def gap : Nat → List CpInfo → List CpInfo
  | 0, r => r
  | n + 1, r => .unusable :: gap n r
def poolList (es : List (Nat × CpInfo)) (last : Nat) : List CpInfo := es.foldr (fun e r => gap e.1 (e.2 :: r)) (gap last [])
def pool (es : List (Nat × CpInfo)) (last : Nat) : Array CpInfo := ⟨poolList es last⟩
def fileOf (pool : Array CpInfo) (this : Nat) (attrs : Array Attribute := #[]) (ms : Array MethodInfo := #[]) (fl : Nat := 33) (sup : Nat := 0) (ifs : Array Nat := #[]) (fds : Array FieldInfo := #[]) : ClassFile where
  minorVersion := 0
  majorVersion := 65
  constantPool := pool
  accessFlags := fl
  thisClass := this
  superClass := sup
  interfaces := ifs
  fields := fds
  methods := ms
  attributes := attrs
def plain (name : String) (sup : Option ClassId) : Class where
  name := name
  kind := .ordinary
  loader := none
  accessFlags := 33
  super := sup
  interfaces := #[]
  cf := none
  fields := #[]
  methods := #[]
  instanceTypes := #[]
  staticTypes := #[]
  resolved := #[]
  callSites := []
  init := .initialized
  statics := none
  mirror := none

def pool0 : Array CpInfo := pool [(5, u "<init>"), (0, u "()V"), (1, .class_ 10), (1, u "java/lang/Object")] 113

def k0m0 : Method := { name := "<init>", desc := "()V", sig := { parameters := [], returnType := none }, accessFlags := 1, code := none }
/-- java/lang/Object -/
def k0 : Class := { plain "java/lang/Object" none with
  accessFlags := 33
  interfaces := #[]
  cf := some (fileOf pool0 8 #[] #[{ accessFlags := 1, nameIndex := 5, descriptorIndex := 6, attributes := #[] }] 33 0 #[] #[])
  fields := #[]
  methods := #[k0m0]
  instanceTypes := #[]
  staticTypes := #[]
  resolved := Array.replicate 124 none
  statics := none }

def pool1 : Array CpInfo := pool [(2, .class_ 4), (1, u "java/lang/Object"), (0, u "<init>"), (0, u "()V"), (0, .fieldref 8 9), (0, .class_ 10), (0, .nameAndType 11 12), (0, u "com/example/lintel/lintel/repository/RepositoryFile$Format"), (0, u "STANDARD"), (0, u "Lcom/example/lintel/lintel/repository/RepositoryFile$Format;"), (0, .fieldref 8 14), (0, .nameAndType 15 12), (0, u "LINTEL"), (0, .methodref 8 17), (0, .nameAndType 18 19), (0, u "recordsDigests"), (0, u "()Z"), (0, .methodref 8 21), (0, .nameAndType 22 23), (0, u "word"), (0, u "()Ljava/lang/String;"), (0, .string 25), (0, u "standard"), (0, .methodref 27 28), (0, .class_ 29), (0, .nameAndType 30 31), (0, u "java/lang/String"), (0, u "equals"), (0, u "(Ljava/lang/Object;)Z"), (0, .class_ 33), (0, u "com/example/lintel/lintel/repository/FormatRecordsDigestsPinLaw"), (2, u "law"), (0, u "(I)Z")] 7

def k1m0 : Method := { name := "<init>", desc := "()V", sig := { parameters := [], returnType := none }, accessFlags := 2, code := none }
def k1c1 : Code := { maxStack := 2, maxLocals := 5, code := code, exceptionTable := #[], attributes := #[] }
def k1m1 : Method := { name := "law", desc := "(I)Z", sig := { parameters := [.int], returnType := some .boolean }, accessFlags := 9, code := some k1c1 }
/-- com/example/lintel/lintel/repository/FormatRecordsDigestsPinLaw -/
def k1 : Class := { plain "com/example/lintel/lintel/repository/FormatRecordsDigestsPinLaw" (some 0) with
  accessFlags := 49
  interfaces := #[]
  cf := some (fileOf pool1 32 #[] #[{ accessFlags := 2, nameIndex := 5, descriptorIndex := 6, attributes := #[] }, { accessFlags := 9, nameIndex := 36, descriptorIndex := 37, attributes := #[] }] 49 2 #[] #[])
  fields := #[]
  methods := #[k1m0, k1m1]
  instanceTypes := #[]
  staticTypes := #[]
  resolved := Array.replicate 45 none
  statics := none }

def pool2 : Array CpInfo := pool [(1, .class_ 2), (0, u "java/lang/constant/Constable"), (0, .class_ 4), (0, u "java/lang/Object")] 6

/-- java/lang/constant/Constable -/
def k2 : Class := { plain "java/lang/constant/Constable" (some 0) with
  accessFlags := 1537
  interfaces := #[]
  cf := some (fileOf pool2 1 #[] #[] 1537 3 #[] #[])
  fields := #[]
  methods := #[]
  instanceTypes := #[]
  staticTypes := #[]
  resolved := Array.replicate 11 none
  statics := none }

def pool3 : Array CpInfo := pool [(1, .class_ 2), (0, u "java/lang/Comparable"), (0, .class_ 4), (0, u "java/lang/Object")] 7

/-- java/lang/Comparable -/
def k3 : Class := { plain "java/lang/Comparable" (some 0) with
  accessFlags := 1537
  interfaces := #[]
  cf := some (fileOf pool3 1 #[] #[] 1537 3 #[] #[])
  fields := #[]
  methods := #[]
  instanceTypes := #[]
  staticTypes := #[]
  resolved := Array.replicate 12 none
  statics := none }

def pool4 : Array CpInfo := pool [(1, .class_ 2), (0, u "java/io/Serializable"), (0, .class_ 4), (0, u "java/lang/Object")] 2

/-- java/io/Serializable -/
def k4 : Class := { plain "java/io/Serializable" (some 0) with
  accessFlags := 1537
  interfaces := #[]
  cf := some (fileOf pool4 1 #[] #[] 1537 3 #[] #[])
  fields := #[]
  methods := #[]
  instanceTypes := #[]
  staticTypes := #[]
  resolved := Array.replicate 7 none
  statics := none }

def pool5 : Array CpInfo := pool [(2, .class_ 4), (1, u "java/lang/Enum"), (0, u "name"), (0, u "Ljava/lang/String;"), (2, u "ordinal"), (0, u "I"), (1, .class_ 14), (1, u "java/lang/Object"), (4, u "hash"), (86, .class_ 108), (1, u "java/lang/Enum$EnumDesc"), (2, .class_ 112), (0, u "java/lang/constant/Constable"), (0, .class_ 114), (0, u "java/lang/Comparable"), (0, .class_ 116), (0, u "java/io/Serializable")] 87

/-- java/lang/Enum -/
def k5 : Class := { plain "java/lang/Enum" (some 0) with
  accessFlags := 1057
  interfaces := #[2, 3, 4]
  cf := some (fileOf pool5 2 #[.nestMembers #[106]] #[] 1057 12 #[111, 113, 115] #[{ accessFlags := 18, nameIndex := 5, descriptorIndex := 6, attributes := #[] }, { accessFlags := 18, nameIndex := 9, descriptorIndex := 10, attributes := #[] }, { accessFlags := 2, nameIndex := 19, descriptorIndex := 10, attributes := #[] }])
  fields := #[{ name := "name", type := (.object "java/lang/String"), accessFlags := 18, slot := 0, constantValue := 0 }, { name := "ordinal", type := .int, accessFlags := 18, slot := 1, constantValue := 0 }, { name := "hash", type := .int, accessFlags := 2, slot := 2, constantValue := 0 }]
  methods := #[]
  instanceTypes := #[(.object "java/lang/String"), .int, .int]
  staticTypes := #[]
  resolved := Array.replicate 204 none
  statics := none }

def pool6 : Array CpInfo := pool [(1, .class_ 2), (0, u "com/example/lintel/lintel/repository/RepositoryFile$Format"), (2, u "LINTEL"), (0, u "Lcom/example/lintel/lintel/repository/RepositoryFile$Format;"), (0, .fieldref 1 8), (0, .nameAndType 9 6), (0, u "STANDARD"), (2, u "$VALUES"), (0, u "[Lcom/example/lintel/lintel/repository/RepositoryFile$Format;"), (6, .class_ 22), (1, u "java/lang/Enum"), (6, .fieldref 1 30), (0, .nameAndType 31 32), (0, u "word"), (0, u "Ljava/lang/String;"), (42, u "()Ljava/lang/String;"), (0, u "recordsDigests"), (0, u "()Z"), (6, .class_ 85), (0, u "com/example/lintel/lintel/repository/RepositoryFile")] 2

def k6c0 : Code := { maxStack := 1, maxLocals := 1, code := prog_57_method_5_code, exceptionTable := #[], attributes := #[] }
def k6m0 : Method := { name := "word", desc := "()Ljava/lang/String;", sig := { parameters := [], returnType := some (.object "java/lang/String") }, accessFlags := 1, code := some k6c0 }
def k6c1 : Code := { maxStack := 2, maxLocals := 1, code := prog_57_method_6_code, exceptionTable := #[], attributes := #[] }
def k6m1 : Method := { name := "recordsDigests", desc := "()Z", sig := { parameters := [], returnType := some .boolean }, accessFlags := 1, code := some k6c1 }
/-- com/example/lintel/lintel/repository/RepositoryFile$Format -/
def k6 : Class := { plain "com/example/lintel/lintel/repository/RepositoryFile$Format" (some 5) with
  accessFlags := 16433
  interfaces := #[]
  cf := some (fileOf pool6 1 #[.nestHost 84] #[{ accessFlags := 1, nameIndex := 31, descriptorIndex := 75, attributes := #[] }, { accessFlags := 1, nameIndex := 76, descriptorIndex := 77, attributes := #[] }] 16433 20 #[] #[{ accessFlags := 16409, nameIndex := 5, descriptorIndex := 6, attributes := #[] }, { accessFlags := 16409, nameIndex := 9, descriptorIndex := 6, attributes := #[] }, { accessFlags := 18, nameIndex := 31, descriptorIndex := 32, attributes := #[] }, { accessFlags := 4122, nameIndex := 12, descriptorIndex := 13, attributes := #[] }])
  fields := #[{ name := "LINTEL", type := (.object "com/example/lintel/lintel/repository/RepositoryFile$Format"), accessFlags := 16409, slot := 0, constantValue := 0 }, { name := "STANDARD", type := (.object "com/example/lintel/lintel/repository/RepositoryFile$Format"), accessFlags := 16409, slot := 1, constantValue := 0 }, { name := "word", type := (.object "java/lang/String"), accessFlags := 18, slot := 3, constantValue := 0 }, { name := "$VALUES", type := (.array (.object "com/example/lintel/lintel/repository/RepositoryFile$Format")), accessFlags := 4122, slot := 2, constantValue := 0 }]
  methods := #[k6m0, k6m1]
  instanceTypes := #[(.object "java/lang/String"), .int, .int, (.object "java/lang/String")]
  staticTypes := #[(.object "com/example/lintel/lintel/repository/RepositoryFile$Format"), (.object "com/example/lintel/lintel/repository/RepositoryFile$Format"), (.array (.object "com/example/lintel/lintel/repository/RepositoryFile$Format"))]
  resolved := Array.replicate 88 none
  statics := some 0 }

def pool7 : Array CpInfo := pool [(2, .class_ 4), (1, u "java/lang/CharSequence"), (42, .class_ 48), (0, u "java/lang/CharSequence$1CodePointIterator"), (10, .class_ 60), (0, u "java/lang/CharSequence$1CharIterator"), (5, .class_ 67), (0, u "java/lang/Object")] 63

/-- java/lang/CharSequence -/
def k7 : Class := { plain "java/lang/CharSequence" (some 0) with
  accessFlags := 1537
  interfaces := #[]
  cf := some (fileOf pool7 2 #[.nestMembers #[47, 59]] #[] 1537 66 #[] #[])
  fields := #[]
  methods := #[]
  instanceTypes := #[]
  staticTypes := #[]
  resolved := Array.replicate 131 none
  statics := none }

def pool8 : Array CpInfo := pool [(1, .class_ 2), (0, u "java/lang/constant/ConstantDesc"), (0, .class_ 4), (0, u "java/lang/Object")] 32

/-- java/lang/constant/ConstantDesc -/
def k8 : Class := { plain "java/lang/constant/ConstantDesc" (some 0) with
  accessFlags := 1537
  interfaces := #[]
  cf := some (fileOf pool8 1 #[] #[] 1537 3 #[] #[])
  fields := #[]
  methods := #[]
  instanceTypes := #[]
  staticTypes := #[]
  resolved := Array.replicate 37 none
  statics := none }

def pool9 : Array CpInfo := pool [(2, .class_ 4), (1, u "java/lang/Object"), (0, u "<init>"), (0, u "()V"), (2, .fieldref 10 11), (0, .class_ 12), (0, .nameAndType 13 14), (0, u "java/lang/String"), (0, u "value"), (0, u "[B"), (0, .fieldref 10 16), (0, .nameAndType 17 18), (0, u "coder"), (0, u "B"), (2, u "hash"), (0, u "I"), (2, u "hashIsZero"), (0, u "Z"), (11, .fieldref 10 39), (0, .nameAndType 40 26), (0, u "COMPACT_STRINGS"), (66, .class_ 109), (1, u "java/lang/StringLatin1"), (431, .methodref 107 542), (0, .nameAndType 543 544), (0, u "equals"), (0, u "([B[B)Z"), (28, u "(Ljava/lang/Object;)Z"), (1, .class_ 576), (0, u "java/lang/CharSequence"), (22, u "CASE_INSENSITIVE_ORDER"), (0, u "Ljava/util/Comparator;"), (500, u "serialPersistentFields"), (0, u "[Ljava/io/ObjectStreamField;"), (0, .class_ 1104), (0, u "java/lang/String$CaseInsensitiveComparator"), (1, .class_ 1107), (0, u "java/io/Serializable"), (0, .class_ 1109), (0, u "java/lang/Comparable"), (0, .class_ 1111), (0, u "java/lang/constant/Constable"), (0, .class_ 1113), (0, u "java/lang/constant/ConstantDesc"), (2, u "serialVersionUID"), (0, u "J"), (3, u "REPL"), (0, u "C"), (2, u "LATIN1"), (1, u "UTF16")] 323

def k9m0 : Method := { name := "<init>", desc := "()V", sig := { parameters := [], returnType := none }, accessFlags := 1, code := none }
def k9c1 : Code := { maxStack := 2, maxLocals := 3, code := jdk_42_method_66_code, exceptionTable := #[], attributes := #[] }
def k9m1 : Method := { name := "equals", desc := "(Ljava/lang/Object;)Z", sig := { parameters := [(.object "java/lang/Object")], returnType := some .boolean }, accessFlags := 1, code := some k9c1 }
/-- java/lang/String -/
def k9 : Class := { plain "java/lang/String" (some 0) with
  accessFlags := 49
  interfaces := #[4, 3, 7, 2, 8]
  cf := some (fileOf pool9 10 #[.nestMembers #[1103]] #[{ accessFlags := 1, nameIndex := 5, descriptorIndex := 6, attributes := #[] }, { accessFlags := 1, nameIndex := 543, descriptorIndex := 573, attributes := #[] }] 49 2 #[1106, 1108, 575, 1110, 1112] #[{ accessFlags := 18, nameIndex := 13, descriptorIndex := 14, attributes := #[] }, { accessFlags := 18, nameIndex := 17, descriptorIndex := 18, attributes := #[] }, { accessFlags := 2, nameIndex := 21, descriptorIndex := 22, attributes := #[] }, { accessFlags := 2, nameIndex := 25, descriptorIndex := 26, attributes := #[] }, { accessFlags := 26, nameIndex := 1116, descriptorIndex := 1117, attributes := #[] }, { accessFlags := 24, nameIndex := 40, descriptorIndex := 26, attributes := #[] }, { accessFlags := 26, nameIndex := 1101, descriptorIndex := 1102, attributes := #[] }, { accessFlags := 26, nameIndex := 1121, descriptorIndex := 1122, attributes := #[] }, { accessFlags := 25, nameIndex := 599, descriptorIndex := 600, attributes := #[] }, { accessFlags := 24, nameIndex := 1125, descriptorIndex := 18, attributes := #[] }, { accessFlags := 24, nameIndex := 1127, descriptorIndex := 18, attributes := #[] }])
  fields := #[{ name := "value", type := (.array .byte), accessFlags := 18, slot := 0, constantValue := 0 }, { name := "coder", type := .byte, accessFlags := 18, slot := 1, constantValue := 0 }, { name := "hash", type := .int, accessFlags := 2, slot := 2, constantValue := 0 }, { name := "hashIsZero", type := .boolean, accessFlags := 2, slot := 3, constantValue := 0 }, { name := "serialVersionUID", type := .long, accessFlags := 26, slot := 0, constantValue := 0 }, { name := "COMPACT_STRINGS", type := .boolean, accessFlags := 24, slot := 1, constantValue := 0 }, { name := "serialPersistentFields", type := (.array (.object "java/io/ObjectStreamField")), accessFlags := 26, slot := 2, constantValue := 0 }, { name := "REPL", type := .char, accessFlags := 26, slot := 3, constantValue := 0 }, { name := "CASE_INSENSITIVE_ORDER", type := (.object "java/util/Comparator"), accessFlags := 25, slot := 4, constantValue := 0 }, { name := "LATIN1", type := .byte, accessFlags := 24, slot := 5, constantValue := 0 }, { name := "UTF16", type := .byte, accessFlags := 24, slot := 6, constantValue := 0 }]
  methods := #[k9m0, k9m1]
  instanceTypes := #[(.array .byte), .byte, .int, .boolean]
  staticTypes := #[.long, .boolean, (.array (.object "java/io/ObjectStreamField")), .char, (.object "java/util/Comparator"), .byte, .byte]
  resolved := Array.replicate 1451 none
  statics := some 1 }

def pool10 : Array CpInfo := pool [(4, .class_ 6), (1, u "java/lang/Object"), (0, u "<init>"), (0, u "()V"), (5, .class_ 16), (1, u "java/lang/StringLatin1"), (104, u "$assertionsDisabled"), (0, u "Z"), (98, .class_ 223), (1, u "java/lang/StringLatin1$LinesSpliterator"), (57, u "equals"), (0, u "([B[B)Z"), (107, .class_ 391), (0, u "java/lang/StringLatin1$CharsSpliterator")] 3

def k10m0 : Method := { name := "<init>", desc := "()V", sig := { parameters := [], returnType := none }, accessFlags := 0, code := none }
def k10c1 : Code := { maxStack := 3, maxLocals := 3, code := jdk_43_method_13_code, exceptionTable := #[], attributes := #[] }
def k10m1 : Method := { name := "equals", desc := "([B[B)Z", sig := { parameters := [(.array .byte), (.array .byte)], returnType := some .boolean }, accessFlags := 9, code := some k10c1 }
/-- java/lang/StringLatin1 -/
def k10 : Class := { plain "java/lang/StringLatin1" (some 0) with
  accessFlags := 48
  interfaces := #[]
  cf := some (fileOf pool10 14 #[.nestMembers #[390, 221]] #[{ accessFlags := 0, nameIndex := 7, descriptorIndex := 8, attributes := #[] }, { accessFlags := 9, nameIndex := 281, descriptorIndex := 282, attributes := #[] }] 48 4 #[] #[{ accessFlags := 4120, nameIndex := 121, descriptorIndex := 122, attributes := #[] }])
  fields := #[{ name := "$assertionsDisabled", type := .boolean, accessFlags := 4120, slot := 0, constantValue := 0 }]
  methods := #[k10m0, k10m1]
  instanceTypes := #[]
  staticTypes := #[.boolean]
  resolved := Array.replicate 395 none
  statics := none }

def pool11 : Array CpInfo := pool [(2, .class_ 4), (1, u "java/lang/Object"), (0, u "<init>"), (0, u "()V"), (17, .class_ 26), (1, u "jdk/internal/util/Preconditions"), (28, .class_ 56), (0, u "jdk/internal/util/Preconditions$4"), (57, .class_ 115), (0, u "jdk/internal/util/Preconditions$1"), (7, u "SIOOBE_FORMATTER"), (0, u "Ljava/util/function/BiFunction;"), (0, .class_ 126), (0, u "jdk/internal/util/Preconditions$2"), (3, u "AIOOBE_FORMATTER"), (0, .class_ 132), (0, u "jdk/internal/util/Preconditions$3"), (3, u "IOOBE_FORMATTER")] 57

def k11m0 : Method := { name := "<init>", desc := "()V", sig := { parameters := [], returnType := none }, accessFlags := 1, code := none }
/-- jdk/internal/util/Preconditions -/
def k11 : Class := { plain "jdk/internal/util/Preconditions" (some 0) with
  accessFlags := 33
  interfaces := #[]
  cf := some (fileOf pool11 24 #[.nestMembers #[55, 131, 125, 114]] #[{ accessFlags := 1, nameIndex := 5, descriptorIndex := 6, attributes := #[] }] 33 2 #[] #[{ accessFlags := 25, nameIndex := 123, descriptorIndex := 124, attributes := #[] }, { accessFlags := 25, nameIndex := 130, descriptorIndex := 124, attributes := #[] }, { accessFlags := 25, nameIndex := 136, descriptorIndex := 124, attributes := #[] }])
  fields := #[{ name := "SIOOBE_FORMATTER", type := (.object "java/util/function/BiFunction"), accessFlags := 25, slot := 0, constantValue := 0 }, { name := "AIOOBE_FORMATTER", type := (.object "java/util/function/BiFunction"), accessFlags := 25, slot := 1, constantValue := 0 }, { name := "IOOBE_FORMATTER", type := (.object "java/util/function/BiFunction"), accessFlags := 25, slot := 2, constantValue := 0 }]
  methods := #[k11m0]
  instanceTypes := #[]
  staticTypes := #[(.object "java/util/function/BiFunction"), (.object "java/util/function/BiFunction"), (.object "java/util/function/BiFunction")]
  resolved := Array.replicate 194 none
  statics := some 2 }

def pool12 : Array CpInfo := pool [(9, u "<init>"), (6, .class_ 18), (1, u "java/lang/Object"), (0, u "()V"), (1, .class_ 23), (1, u "jdk/internal/util/ArraysSupport"), (0, u "LOG2_ARRAY_LONG_INDEX_SCALE"), (0, u "I"), (2, u "U"), (0, u "Ljdk/internal/misc/Unsafe;"), (8, u "BIG_ENDIAN"), (0, u "Z"), (8, u "LOG2_BYTE_BIT_SIZE"), (4, u "LOG2_ARRAY_INT_INDEX_SCALE"), (54, u "JLA"), (0, u "Ljdk/internal/access/JavaLangAccess;"), (11, u "LOG2_ARRAY_BOOLEAN_INDEX_SCALE"), (9, u "LOG2_ARRAY_BYTE_INDEX_SCALE"), (5, u "LOG2_ARRAY_CHAR_INDEX_SCALE"), (5, u "LOG2_ARRAY_SHORT_INDEX_SCALE"), (18, u "LOG2_ARRAY_FLOAT_INDEX_SCALE"), (24, u "LOG2_ARRAY_DOUBLE_INDEX_SCALE"), (89, u "T_BOOLEAN"), (2, u "T_CHAR"), (1, u "T_FLOAT"), (1, u "T_DOUBLE"), (1, u "T_BYTE"), (1, u "T_SHORT"), (1, u "T_INT"), (1, u "T_LONG"), (1, u "SOFT_MAX_ARRAY_LENGTH")] 83

def k12m0 : Method := { name := "<init>", desc := "()V", sig := { parameters := [], returnType := none }, accessFlags := 2, code := none }
/-- jdk/internal/util/ArraysSupport -/
def k12 : Class := { plain "jdk/internal/util/ArraysSupport" (some 0) with
  accessFlags := 33
  interfaces := #[]
  cf := some (fileOf pool12 21 #[] #[{ accessFlags := 2, nameIndex := 9, descriptorIndex := 19, attributes := #[] }] 33 16 #[] #[{ accessFlags := 24, nameIndex := 28, descriptorIndex := 29, attributes := #[] }, { accessFlags := 26, nameIndex := 38, descriptorIndex := 39, attributes := #[] }, { accessFlags := 25, nameIndex := 121, descriptorIndex := 25, attributes := #[] }, { accessFlags := 25, nameIndex := 131, descriptorIndex := 25, attributes := #[] }, { accessFlags := 25, nameIndex := 137, descriptorIndex := 25, attributes := #[] }, { accessFlags := 25, nameIndex := 143, descriptorIndex := 25, attributes := #[] }, { accessFlags := 25, nameIndex := 53, descriptorIndex := 25, attributes := #[] }, { accessFlags := 25, nameIndex := 24, descriptorIndex := 25, attributes := #[] }, { accessFlags := 25, nameIndex := 162, descriptorIndex := 25, attributes := #[] }, { accessFlags := 25, nameIndex := 187, descriptorIndex := 25, attributes := #[] }, { accessFlags := 26, nameIndex := 48, descriptorIndex := 25, attributes := #[] }, { accessFlags := 25, nameIndex := 277, descriptorIndex := 25, attributes := #[] }, { accessFlags := 25, nameIndex := 280, descriptorIndex := 25, attributes := #[] }, { accessFlags := 25, nameIndex := 282, descriptorIndex := 25, attributes := #[] }, { accessFlags := 25, nameIndex := 284, descriptorIndex := 25, attributes := #[] }, { accessFlags := 25, nameIndex := 286, descriptorIndex := 25, attributes := #[] }, { accessFlags := 25, nameIndex := 288, descriptorIndex := 25, attributes := #[] }, { accessFlags := 25, nameIndex := 290, descriptorIndex := 25, attributes := #[] }, { accessFlags := 25, nameIndex := 292, descriptorIndex := 25, attributes := #[] }, { accessFlags := 26, nameIndex := 108, descriptorIndex := 109, attributes := #[] }, { accessFlags := 25, nameIndex := 294, descriptorIndex := 25, attributes := #[] }])
  fields := #[{ name := "U", type := (.object "jdk/internal/misc/Unsafe"), accessFlags := 24, slot := 0, constantValue := 0 }, { name := "BIG_ENDIAN", type := .boolean, accessFlags := 26, slot := 1, constantValue := 0 }, { name := "LOG2_ARRAY_BOOLEAN_INDEX_SCALE", type := .int, accessFlags := 25, slot := 2, constantValue := 0 }, { name := "LOG2_ARRAY_BYTE_INDEX_SCALE", type := .int, accessFlags := 25, slot := 3, constantValue := 0 }, { name := "LOG2_ARRAY_CHAR_INDEX_SCALE", type := .int, accessFlags := 25, slot := 4, constantValue := 0 }, { name := "LOG2_ARRAY_SHORT_INDEX_SCALE", type := .int, accessFlags := 25, slot := 5, constantValue := 0 }, { name := "LOG2_ARRAY_INT_INDEX_SCALE", type := .int, accessFlags := 25, slot := 6, constantValue := 0 }, { name := "LOG2_ARRAY_LONG_INDEX_SCALE", type := .int, accessFlags := 25, slot := 7, constantValue := 0 }, { name := "LOG2_ARRAY_FLOAT_INDEX_SCALE", type := .int, accessFlags := 25, slot := 8, constantValue := 0 }, { name := "LOG2_ARRAY_DOUBLE_INDEX_SCALE", type := .int, accessFlags := 25, slot := 9, constantValue := 0 }, { name := "LOG2_BYTE_BIT_SIZE", type := .int, accessFlags := 26, slot := 10, constantValue := 0 }, { name := "T_BOOLEAN", type := .int, accessFlags := 25, slot := 11, constantValue := 0 }, { name := "T_CHAR", type := .int, accessFlags := 25, slot := 12, constantValue := 0 }, { name := "T_FLOAT", type := .int, accessFlags := 25, slot := 13, constantValue := 0 }, { name := "T_DOUBLE", type := .int, accessFlags := 25, slot := 14, constantValue := 0 }, { name := "T_BYTE", type := .int, accessFlags := 25, slot := 15, constantValue := 0 }, { name := "T_SHORT", type := .int, accessFlags := 25, slot := 16, constantValue := 0 }, { name := "T_INT", type := .int, accessFlags := 25, slot := 17, constantValue := 0 }, { name := "T_LONG", type := .int, accessFlags := 25, slot := 18, constantValue := 0 }, { name := "JLA", type := (.object "jdk/internal/access/JavaLangAccess"), accessFlags := 26, slot := 19, constantValue := 0 }, { name := "SOFT_MAX_ARRAY_LENGTH", type := .int, accessFlags := 25, slot := 20, constantValue := 0 }]
  methods := #[k12m0]
  instanceTypes := #[]
  staticTypes := #[(.object "jdk/internal/misc/Unsafe"), .boolean, .int, .int, .int, .int, .int, .int, .int, .int, .int, .int, .int, .int, .int, .int, .int, .int, .int, (.object "jdk/internal/access/JavaLangAccess"), .int]
  resolved := Array.replicate 378 none
  statics := none }

def pool13 : Array CpInfo := pool [(1, u "java/lang/Cloneable"), (0, .class_ 1), (0, u "java/lang/Object"), (0, .class_ 3)] 3

/-- java/lang/Cloneable -/
def k13 : Class := { plain "java/lang/Cloneable" (some 0) with
  accessFlags := 1537
  interfaces := #[]
  cf := some (fileOf pool13 2 #[] #[] 1537 4 #[] #[])
  fields := #[]
  methods := #[]
  instanceTypes := #[]
  staticTypes := #[]
  resolved := Array.replicate 8 none
  statics := none }

/-- the primitive byte -/
def k14 : Class := { plain "byte" none with kind := .primitive 'B', accessFlags := 0x411 }
/-- [B -/
def k15 : Class := { plain "[B" (some 0) with kind := .array 14 .byte, interfaces := #[13, 4], accessFlags := 1041 }

/-- the primitive int -/
def k16 : Class := { plain "int" none with kind := .primitive 'I', accessFlags := 0x411 }
/-- [I -/
def k17 : Class := { plain "[I" (some 0) with kind := .array 16 .int, interfaces := #[13, 4], accessFlags := 1041 }

def heap : Heap := #[{ cls := 6, slots := #[.ref 7, .ref 8, .null], vm := .statics 6 },
  { cls := 9, slots := #[.long 0, .int 1, .null, .int 0, .null, .int 0, .int 0], vm := .statics 9 },
  { cls := 11, slots := #[.null, .null, .null], vm := .statics 11 },
  { cls := 15, slots := #[.int 108, .int 105, .int 110, .int 116, .int 101, .int 108], vm := .none },
  { cls := 15, slots := #[.int 115, .int 116, .int 97, .int 110, .int 100, .int 97, .int 114, .int 100], vm := .none },
  { cls := 9, slots := #[.ref 3, .int 0, .int 0, .int 0], vm := .none },
  { cls := 9, slots := #[.ref 4, .int 0, .int 0, .int 0], vm := .none },
  { cls := 6, slots := #[.null, .int 0, .int 0, .ref 5], vm := .none },
  { cls := 6, slots := #[.null, .int 1, .int 0, .ref 6], vm := .none }]
def classes : Array Class := #[k0, k1, k2, k3, k4, k5, k6, k7, k8, k9, k10, k11, k12, k13, k14, k15, k16, k17]
def interned : List (Array UInt16 × Addr) := []
def slotsUsed : Nat := 43
def theMethod : MethodId := ⟨1, 1⟩
def args0 : Array Value := #[.int 5]
def aboutOver (below : List Frame) : State where
  vm := { classes := classes, interned := interned.toArray }
  heap := heap
  slotsUsed := slotsUsed
  threads := #[{ frames := .invoking theMethod args0 :: below }]
def below0 : List Frame := [.native { method := ⟨0, 0⟩, args := #[] }]
def about1 : State := aboutOver below0
def p0 : Program := .bare "" "" ""
def e0 : Env := launch0.env 0 0 0
theorem w_frames : about1.frames = Frame.invoking theMethod args0 :: below0 := rfl
set_option maxRecDepth 65536 in
theorem w_args : argsFit about1.vm theMethod args0 = true := by decide +kernel
set_option maxRecDepth 65536 in
theorem w_heap : heapFits about1 = true := by decide +kernel
set_option maxRecDepth 65536 in
theorem w_runnable : about1.curStatus? = some .runnable := by decide +kernel
set_option maxRecDepth 65536 in
theorem w_alone : about1.alone = true := by decide +kernel
set_option maxRecDepth 65536 in
theorem w_named : about1.methodNamed? x = some theMethod := by decide +kernel
set_option maxRecDepth 65536 in
theorem w_hears : about1.hears theMethod below0 = true := by decide +kernel
set_option maxRecDepth 65536 in
theorem w_ripe : about1.ripe theMethod args0 below0 = true := by decide +kernel
theorem w_running : about1.status = .running := rfl
set_option maxRecDepth 65536 in
theorem w_room : about1.hasRoom e0.platform room_1 = true :=
  launch0.hasRoom_least _ room_1 (by decide +kernel) (by decide +kernel) (by decide +kernel) (by decide +kernel) (by decide +kernel) (by decide +kernel)
theorem allAtoms_all (ts : List Jvm.Cond) (a : Array Jvm.Value) (st : Jvm.State) : (allAtoms ts).before a st = ts.all (fun c => c.before a st) := by
  induction ts with
  | nil => rfl
  | cons c t ih =>
    show (Jvm.Cond.and c (allAtoms t)).before a st = _
    rw [Jvm.Cond.before_and, ih, List.all_cons]
def words1 : List Jvm.Cond := Jvm.Cond.code x code maxLocals ret :: tables_1
/-- a 'code' word, met by the world's own term for the bytes: nothing is compared byte by byte -/
theorem code_word {y : MethodName} {bytes : ByteArray} {mx : Nat} {rt : Option FieldType} {a : Array Value} {s : State} {m : MethodId} {meth : Method} {c : Code} (h1 : s.methodNamed? y = some m) (h2 : s.vm.method? m = some meth) (h3 : meth.code = some c) (h4 : c.code = bytes)
    (h5 : (c.maxLocals == mx && c.exceptionTable.isEmpty && decide (c.maxStack ≤ mostOperands) && decide (meth.sig.returnType = rt) && !meth.locks && decide (parseMethodDescriptor y.desc = some meth.sig)) = true) : (Jvm.Cond.code y bytes mx rt).before a s = true := by
  simp only [Bool.and_eq_true, beq_iff_eq, Bool.not_eq_true', decide_eq_true_eq] at h5
  obtain ⟨⟨⟨⟨⟨g1, g2⟩, g3⟩, g4⟩, g5⟩, g6⟩ := h5
  simp [Cond.before, Cond.holds, Cond.value, h1, h2, h3, h4, g1, g2, g3, g4, g5, g6]
def isCode : Jvm.Cond → Bool
  | .code _ _ _ _ => true
  | _ => false
theorem all_split {L : List Jvm.Cond} {P : Jvm.Cond → Bool} (h1 : L.all (fun c => isCode c || P c) = true) (h2 : ∀ c ∈ L.filter isCode, P c = true) : L.all P = true := by
  refine List.all_eq_true.mpr fun c hc => ?_
  have h := List.all_eq_true.mp h1 c hc
  rcases Bool.eq_false_or_eq_true (isCode c) with hi | hi
  · exact h2 c (List.mem_filter.mpr ⟨hc, hi⟩)
  · simpa [hi] using h
set_option maxRecDepth 65536 in
theorem w_c0 : (Jvm.Cond.code x code maxLocals ret).before args0 about1 = true := code_word (m := ⟨1, 1⟩) (meth := k1m1) (c := k1c1) (by decide +kernel) rfl rfl rfl (by decide +kernel)
set_option maxRecDepth 65536 in
theorem w_c1 : (Jvm.Cond.code ({ cls := "com/example/lintel/lintel/repository/RepositoryFile$Format", name := "recordsDigests", desc := "()Z" } : Jvm.MethodName) prog_57_method_6_code (1 : Nat) (Option.some Jvm.ClassFile.FieldType.boolean)).before args0 about1 = true := code_word (m := ⟨6, 1⟩) (meth := k6m1) (c := k6c1) (by decide +kernel) rfl rfl rfl (by decide +kernel)
set_option maxRecDepth 65536 in
theorem w_c2 : (Jvm.Cond.code ({ cls := "com/example/lintel/lintel/repository/RepositoryFile$Format", name := "word", desc := "()Ljava/lang/String;" } : Jvm.MethodName) prog_57_method_5_code (1 : Nat) (Option.some (Jvm.ClassFile.FieldType.object "java/lang/String"))).before args0 about1 = true := code_word (m := ⟨6, 0⟩) (meth := k6m0) (c := k6c0) (by decide +kernel) rfl rfl rfl (by decide +kernel)
set_option maxRecDepth 65536 in
theorem w_c3 : (Jvm.Cond.code ({ cls := "java/lang/String", name := "equals", desc := "(Ljava/lang/Object;)Z" } : Jvm.MethodName) jdk_42_method_66_code (3 : Nat) (Option.some Jvm.ClassFile.FieldType.boolean)).before args0 about1 = true := code_word (m := ⟨9, 1⟩) (meth := k9m1) (c := k9c1) (by decide +kernel) rfl rfl rfl (by decide +kernel)
set_option maxRecDepth 65536 in
theorem w_c4 : (Jvm.Cond.code ({ cls := "java/lang/StringLatin1", name := "equals", desc := "([B[B)Z" } : Jvm.MethodName) jdk_43_method_13_code (3 : Nat) (Option.some Jvm.ClassFile.FieldType.boolean)).before args0 about1 = true := code_word (m := ⟨10, 1⟩) (meth := k10m1) (c := k10c1) (by decide +kernel) rfl rfl rfl (by decide +kernel)
def codes1 : List Jvm.Cond := [Jvm.Cond.code x code maxLocals ret, Jvm.Cond.code ({ cls := "com/example/lintel/lintel/repository/RepositoryFile$Format", name := "recordsDigests", desc := "()Z" } : Jvm.MethodName) prog_57_method_6_code (1 : Nat) (Option.some Jvm.ClassFile.FieldType.boolean), Jvm.Cond.code ({ cls := "com/example/lintel/lintel/repository/RepositoryFile$Format", name := "word", desc := "()Ljava/lang/String;" } : Jvm.MethodName) prog_57_method_5_code (1 : Nat) (Option.some (Jvm.ClassFile.FieldType.object "java/lang/String")), Jvm.Cond.code ({ cls := "java/lang/String", name := "equals", desc := "(Ljava/lang/Object;)Z" } : Jvm.MethodName) jdk_42_method_66_code (3 : Nat) (Option.some Jvm.ClassFile.FieldType.boolean), Jvm.Cond.code ({ cls := "java/lang/StringLatin1", name := "equals", desc := "([B[B)Z" } : Jvm.MethodName) jdk_43_method_13_code (3 : Nat) (Option.some Jvm.ClassFile.FieldType.boolean)]
set_option maxRecDepth 65536 in
theorem codes_eq : words1.filter isCode = codes1 := rfl
theorem w_codes : ∀ c ∈ words1.filter isCode, c.before args0 about1 = true := by
  rw [codes_eq]
  intro c hc
  simp only [codes1, List.mem_cons, List.not_mem_nil, or_false] at hc
  rcases hc with rfl | rfl | rfl | rfl | rfl
  · exact w_c0
  · exact w_c1
  · exact w_c2
  · exact w_c3
  · exact w_c4
set_option maxRecDepth 65536 in
theorem w_t1 : (words1.take 24).all (fun c => isCode c || c.before args0 about1) = true := by decide +kernel
set_option maxRecDepth 65536 in
theorem w_t2 : (words1.drop 24).all (fun c => isCode c || c.before args0 about1) = true := by decide +kernel
theorem w_tables : (allAtoms (Jvm.Cond.code x code maxLocals ret :: tables_1)).before args0 about1 = true := by
  rw [allAtoms_all]
  show words1.all (fun c => c.before args0 about1) = true
  refine all_split ?_ w_codes
  rw [← List.take_append_drop 24 words1, List.all_append, w_t1, w_t2]
  rfl
set_option maxRecDepth 65536 in
theorem w_rest : rest_1_c.before args0 about1 = true := by decide +kernel
set_option maxRecDepth 65536 in
theorem w_case : (Jvm.Cond.and given_1 narrow_1).before args0 about1 = true := by decide +kernel
set_option maxRecDepth 65536 in
theorem w_consts : constsHeld consts_1 about1 := Jvm.Lit.constsHeldB_iff.mp (by decide +kernel)
theorem w_applies : (headSpec (Jvm.Cond.code x code maxLocals ret :: tables_1) room_1).applies x e0.platform about1 = true :=
  (Spec.applies_iff w_frames).mpr ⟨w_running, w_runnable, w_alone, w_named, w_hears, w_ripe, w_room, w_tables⟩
theorem atStart : AtStart classFile x code maxLocals ret World_1 tables_1 room_1 Calls_1 rest_1 Pre_1 launch0 p0 e0 about1 theMethod args0 below0 :=
  ⟨lists_1, trivial, launch0.admits_env _ _ _, launch0.least_env, fairChoices_fair.cas, fairChoices_fair.clock, w_frames, w_args, w_heap, w_applies, ⟨w_consts, trivial⟩, w_rest, w_case⟩
end start1
theorem witness_1 : WitnessClaimed_1 := ⟨start1.p0, start1.e0, start1.about1, start1.theMethod, start1.args0, start1.below0, start1.atStart⟩
end Jvm.Pilot.@@N@@
