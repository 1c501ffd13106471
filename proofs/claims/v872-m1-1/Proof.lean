import JvmDerived
import JvmDerived.Pilot.@@N@@Statement
import JvmDerived.Pilot.@@N@@Code
set_option linter.unusedVariables false
set_option linter.unusedSimpArgs false
namespace Jvm.Pilot.@@N@@
open Jvm Jvm.ClassFile Sem Op Lib Jvm.Free Jvm.Stand Jvm.LawKit Jvm.RoadKit Bundle Jvm.Pilot.@@N@@.Jvm.D
section Own
variable {p : Program} {l : Launch} {e : Env} {R : Room} {s : State} {m : MethodId} {args : Array Value} {below : List Frame} {meth : Method} {c : Code} {T : State} {locs : List Loc} {cells slots : Nat} {Z : State} {a0 : Array Value} {h : Heap}
def own_Go (p : Program) (e : Env) (below : List Frame) (Q : Outcome → State → Prop) (T : State) (g : JFrame) : Prop := ∃ s₂ o, Steps p.tables e below (T.setTop g) s₂ ∧ s₂.status = .running ∧ Ended s₂ below o ∧ Q o s₂
theorem own_st {Q : Outcome → State → Prop} {T T' : State} {g g' : JFrame} (h : ∀ t, Steps p.tables e below (T'.setTop g') t → Steps p.tables e below (T.setTop g) t) (k : own_Go p e below Q T' g') : own_Go p e below Q T g := by
  obtain ⟨s₂, o, h1, h2⟩ := k
  exact ⟨s₂, o, h _ h1, h2⟩
theorem own_s {Q : Outcome → State → Prop} {T : State} {g : JFrame} (T' : State) (g' : JFrame) (h : ∀ t, Steps p.tables e below (T'.setTop g') t → Steps p.tables e below (T.setTop g) t) (k : own_Go p e below Q T' g') : own_Go p e below Q T g := own_st h k
abbrev u_ : Slot := .unset
abbrev v_ : Slot := .second
theorem own_cast {Q : Outcome → State → Prop} {T : State} {g g' : JFrame} (q : g = g') (k : own_Go p e below Q T g') : own_Go p e below Q T g := q ▸ k
def own_Post (Qv : Option Value → Heap → List Loc → Prop) (kc ks : Nat) (U : State) (o : Outcome) (U' : State) : Prop := ∃ v L, o = .returned v ∧ Qv v U'.heap L ∧ FrameEnd U o U' L kc ks
def own_Met (l : Launch) (Z : State) (y : MethodName) (bytes : ByteArray) (maxL : Nat) (ret : Option FieldType) (ws : List Jvm.Cond) (rm : Room) (h0 : Heap) (as' : Array Value) (Qv : Option Value → Heap → List Loc → Prop) (kc ks : Nat) : Prop :=
  MetFree l y (head1 (Jvm.Cond.code y bytes maxL ret :: ws) rm) (fun a U => a = as' ∧ Z.Warmed39 U.vm ∧ U.heap = h0) (fun _ _ _ _ _ => True) (fun _ U o U' => own_Post Qv kc ks U o U')
theorem own_start {y : MethodName} {bytes : ByteArray} {maxL : Nat} {ret : Option FieldType} {ws : List Jvm.Cond} {rm : Room} {h0 : Heap} {as' : Array Value} {Qv : Option Value → Heap → List Loc → Prop} {kc ks : Nat} (hpl : plainFor y = true)
    (body : ∀ (p : Program) (e : Env) (s : State) (m : MethodId) (below : List Frame) (meth : Method) (c : Code) (s₁ : State), Stand p l e rm s m as' below meth c s₁ [] 0 0 → p.tables.exec = Jvm.exec → Z.Warmed39 s.vm → c.code = bytes → c.maxLocals = maxL → meth.sig.returnType = ret → meth.locks = false → s.vm.findClass y.cls = some m.cls → meth.name = y.name → s₁.heap = h0 → own_Go p e below (own_Post Qv kc ks s) s₁ (entryFrame m as' maxL)) :
    own_Met l Z y bytes maxL ret ws rm h0 as' Qv kc ks := by
  refine MetFree.of_bodySF hpl hisR ?_
  intro p e s m args below meth c s₁ Bd hml0 hP hK
  obtain ⟨rfl, hZ, hh⟩ := hP
  exact body p e s m below meth c s₁ (Stand.of_body Bd) Bd.exec hZ Bd.bytes hml0 Bd.returns Bd.notSynchronized (findClass_of_methodNamed Bd.named) (name_of_methodNamed Bd.named Bd.method).1 (by rw [← hh, Bd.state]; rfl)
def own_PostW (Qv : Option Value → Heap → Vm → List Loc → Prop) (kc ks : Nat) (U : State) (o : Outcome) (U' : State) : Prop := ∃ v L, o = .returned v ∧ Qv v U'.heap U'.vm L ∧ ReturnedEndW U o U' L kc ks
def own_MetW (l : Launch) (Z : State) (y : MethodName) (bytes : ByteArray) (maxL : Nat) (ret : Option FieldType) (ws : List Jvm.Cond) (rm : Room) (h0 : Heap) (J : Vm → Prop) (as' : Array Value) (Qv : Option Value → Heap → Vm → List Loc → Prop) (kc ks : Nat) : Prop :=
  MetFree l y (head1 (Jvm.Cond.code y bytes maxL ret :: ws) rm) (fun a U => a = as' ∧ Z.Warmed39 U.vm ∧ U.heap = h0 ∧ J U.vm) (fun _ _ _ _ _ => True) (fun _ U o U' => own_PostW Qv kc ks U o U')
theorem own_startW {y : MethodName} {bytes : ByteArray} {maxL : Nat} {ret : Option FieldType} {ws : List Jvm.Cond} {rm : Room} {h0 : Heap} {J : Vm → Prop} {as' : Array Value} {Qv : Option Value → Heap → Vm → List Loc → Prop} {kc ks : Nat} (hpl : plainFor y = true)
    (body : ∀ (p : Program) (e : Env) (s : State) (m : MethodId) (below : List Frame) (meth : Method) (c : Code) (s₁ : State), Stand p l e rm (s.setVm s.vm) m as' below meth c s₁ [] 0 0 → p.tables.exec = Jvm.exec → Z.Warmed39 s.vm → c.code = bytes → c.maxLocals = maxL → meth.sig.returnType = ret → meth.locks = false → s.vm.findClass y.cls = some m.cls → meth.name = y.name → s₁.heap = h0 → s.Since s.vm 0 → s.heap = h0 → J s.vm → own_Go p e below (own_PostW Qv kc ks s) s₁ (entryFrame m as' maxL)) :
    own_MetW l Z y bytes maxL ret ws rm h0 J as' Qv kc ks := by
  refine MetFree.of_bodySF hpl hisR ?_
  intro p e s m args below meth c s₁ Bd hml0 hP hK
  obtain ⟨rfl, hZ, hh, hJ⟩ := hP
  exact body p e s m below meth c s₁ (Stand.of_body Bd) Bd.exec hZ Bd.bytes hml0 Bd.returns Bd.notSynchronized (findClass_of_methodNamed Bd.named) (name_of_methodNamed Bd.named Bd.method).1 (by rw [← hh, Bd.state]; rfl) ((State.WarmedH.refl s).since 0) hh hJ
def own_End (e : Env) (below : List Frame) (m : MethodId) (T : State) (v : Option Value) (P : Outcome → State → Prop) : Prop := ∃ fs, (∀ (f : JFrame) (acts : List Action), f.method = m → f.locked = none → f.entered = [] → (doReturn e (T.setTop f) acts v).1 = T.setFrames fs) ∧ (T.setFrames fs).status = .running ∧ Ended (T.setFrames fs) below (.returned v) ∧ P (.returned v) (T.setFrames fs)
theorem own_end {Qv : Option Value → Heap → List Loc → Prop} {kc ks : Nat} (X : Stand p l e R s m args below meth c T locs cells slots) {v : Option Value} (hv : meth.sig.returnType = none → v = none) (hlocks : meth.locks = false) (hc : cells ≤ kc) (hs : slots ≤ ks) (eT : T.heap = h) (q : Qv v h locs) : own_End e below m T v (own_Post Qv kc ks s) := by
  obtain ⟨fs, hr, hrun, hended, hW, hsame⟩ := X.leave hv hlocks
  exact ⟨fs, hr, hrun, hended, _, _, rfl, (by show Qv v T.heap locs; rw [eT]; exact q), ⟨_, rfl⟩, hW, hsame.mono hc hs⟩
theorem own_endW {Qv : Option Value → Heap → Vm → List Loc → Prop} {kc ks : Nat} {vm1 : Vm} (X : Stand p l e R (s.setVm vm1) m args below meth c T locs cells slots) {n : Nat} (hS : s.Since vm1 n) {v : Option Value} (hv : meth.sig.returnType = none → v = none) (hlocks : meth.locks = false) (hc : cells ≤ kc) (hs : slots ≤ ks) (eT : T.heap = h) (hk : n ≤ h.size) (q : ∀ vm', (s.setVm vm1).WarmedH vm' → Qv v h vm' locs) : own_End e below m T v (own_PostW Qv kc ks s) := by
  obtain ⟨fs, hr, hrun, hended, hE⟩ := X.leaveW hS (by rw [eT]; exact hk) hv hlocks
  exact ⟨fs, hr, hrun, hended, _, _, rfl, (by show Qv v T.heap T.vm locs; rw [eT]; exact q _ X.warmed), hE.1, hE.2.1, hE.2.2.1, hE.2.2.2.mono hc hs⟩
theorem own_fin {P : Outcome → State → Prop} {v : Option Value} {g : JFrame} (E : own_End e below m T v P) (st : ∀ fs, (∀ (f : JFrame) (acts : List Action), f.method = m → f.locked = none → f.entered = [] → (doReturn e (T.setTop f) acts v).1 = T.setFrames fs) → Steps p.tables e below (T.setTop g) (T.setFrames fs)) : own_Go p e below P T g := by
  obtain ⟨fs, hr, hrun, hended, q⟩ := E
  exact ⟨_, _, st fs hr, hrun, hended, q⟩
theorem own_some {t : FieldType} {v : Option Value} (hret : meth.sig.returnType = some t) : meth.sig.returnType = none → v = none := fun h => by rw [hret] at h; cases h
theorem own_finV {P : Outcome → State → Prop} (X : Stand p l e R s m args below meth c T locs cells slots) (hx : p.tables.exec = Jvm.exec) (hret : meth.sig.returnType = none) {pc : Nat} {Ls : Array Slot} (hd : decode c.code pc = .ok (.return_, 1)) (E : own_End e below m T none P) : own_Go p e below P T (mkF m pc Ls []) :=
  own_fin E (fun fs hr => X.returnOut hx hret hd hr)
theorem own_finX {P : Outcome → State → Prop} (X : Stand p l e R s m args below meth c T locs cells slots) (hx : p.tables.exec = Jvm.exec) {t : FieldType} (hret : meth.sig.returnType = some t) {pc : Nat} {Ls : Array Slot} {w : Value} {i : Instr} {rest : List Value} (hn : narrow t w = w)
    (hi : (i = .ireturn ∧ (t = .int ∨ t = .boolean ∨ t = .byte ∨ t = .char ∨ t = .short) ∧ ∃ z, w = .int z) ∨ (i = .lreturn ∧ t = .long ∧ ∃ z, w = .long z) ∨ (i = .dreturn ∧ t = .double ∧ ∃ z, w = .double z) ∨ (i = .freturn ∧ t = .float ∧ ∃ z, w = .float z) ∨ (i = .areturn ∧ t.isReference = true ∧ w.isRef = true))
    (hd : decode c.code pc = .ok (i, 1)) (E : own_End e below m T (some w) P) : own_Go p e below P T (mkF m pc Ls (w :: rest)) :=
  own_fin E (fun fs hr => retOut X hx hret hn hi hd hr)
theorem own_finI {P : Outcome → State → Prop} (X : Stand p l e R s m args below meth c T locs cells slots) (hx : p.tables.exec = Jvm.exec) (hret : meth.sig.returnType = some .int) {pc : Nat} {Ls : Array Slot} {z : Int32} {rest : List Value} (hd : decode c.code pc = .ok (.ireturn, 1)) (E : own_End e below m T (some (.int z)) P) : own_Go p e below P T (mkF m pc Ls (.int z :: rest)) :=
  own_finX X hx hret rfl (Or.inl ⟨rfl, Or.inl rfl, _, rfl⟩) hd E
theorem own_finL {P : Outcome → State → Prop} (X : Stand p l e R s m args below meth c T locs cells slots) (hx : p.tables.exec = Jvm.exec) (hret : meth.sig.returnType = some .long) {pc : Nat} {Ls : Array Slot} {z : Int64} {rest : List Value} (hd : decode c.code pc = .ok (.lreturn, 1)) (E : own_End e below m T (some (.long z)) P) : own_Go p e below P T (mkF m pc Ls (.long z :: rest)) :=
  own_finX X hx hret rfl (Or.inr (Or.inl ⟨rfl, rfl, _, rfl⟩)) hd E
theorem own_finD {P : Outcome → State → Prop} (X : Stand p l e R s m args below meth c T locs cells slots) (hx : p.tables.exec = Jvm.exec) (hret : meth.sig.returnType = some .double) {pc : Nat} {Ls : Array Slot} {z : UInt64} {rest : List Value} (hd : decode c.code pc = .ok (.dreturn, 1)) (E : own_End e below m T (some (.double z)) P) : own_Go p e below P T (mkF m pc Ls (.double z :: rest)) :=
  own_finX X hx hret rfl (Or.inr (Or.inr (Or.inl ⟨rfl, rfl, _, rfl⟩))) hd E
theorem own_finA {P : Outcome → State → Prop} (X : Stand p l e R s m args below meth c T locs cells slots) (hx : p.tables.exec = Jvm.exec) {t : FieldType} (hret : meth.sig.returnType = some t) (ht : t.isReference = true) {pc : Nat} {Ls : Array Slot} {w : Value} {rest : List Value} (hw : w.isRef = true) (hd : decode c.code pc = .ok (.areturn, 1)) (E : own_End e below m T (some w) P) : own_Go p e below P T (mkF m pc Ls (w :: rest)) :=
  own_finX X hx hret (by rcases ref_cases hw with rfl | ⟨z, rfl⟩ <;> cases t <;> first | rfl | cases ht) (Or.inr (Or.inr (Or.inr (Or.inr ⟨rfl, ht, hw⟩)))) hd E
theorem own_finZ {P : Outcome → State → Prop} (X : Stand p l e R s m args below meth c T locs cells slots) (hx : p.tables.exec = Jvm.exec) {t : FieldType} (hret : meth.sig.returnType = some t) (ht : t = .boolean ∨ t = .byte ∨ t = .char ∨ t = .short) {pc : Nat} {Ls : Array Slot} {z z' : Int32} {rest : List Value} (hz : nar t z = z') (hd : decode c.code pc = .ok (.ireturn, 1)) (E : own_End e below m T (some (.int z')) P) : own_Go p e below P T (mkF m pc Ls (.int z :: rest)) :=
  own_fin E (fun fs hr => by subst hz; exact retN X hx hret ht hd hr)
theorem own_callS (X : Stand p l e R s m args below meth c T locs cells slots) (hx : p.tables.exec = Jvm.exec) (hZ : Z.Warmed39 s.vm) {own : String} {index : Nat} {y : MethodName} {bytes : ByteArray} {maxL : Nat} {ret : Option FieldType} {rm : Room} {W : Nat} {Q : Option Value → Heap → List Loc → Prop} {argsL rest : List Value} {as' : Array Value}
    (hown : s.vm.findClass own = some m.cls) (w1 : (Cond.methodLink own index y).before a0 Z = true) (w2 : (Cond.static y).before a0 Z = true) (w3 : (Cond.initialized y.cls).before a0 Z = true) (w4 : (Cond.code y bytes maxL ret).before a0 Z = true) (hy : y.cls ≠ "java/lang/invoke/MethodHandle" ∧ y.cls ≠ "java/lang/invoke/VarHandle")
    (hM : own_Met l Z y bytes maxL ret [] rm h as' Q rm.cells rm.slots) (hf : rm.frames + 1 ≤ R.frames) (hl : W + (maxL + 11) + rm.locals ≤ R.locals) {g : JFrame} (hg : g.method = m) (hsz : g.locals.size = c.maxLocals) (has : argsL.toArray = as') (hlen : ∀ sig, parseMethodDescriptor y.desc = some sig → argsL.length = sig.parameters.length) (hstk : g.stack = argsL.reverse ++ rest) (hW : 2 * g.monitorRoom + (rest.map fun v => v.category).sum ≤ W)
    (hd : decode c.code g.pc = .ok (.invokestatic index, 3)) (eT : T.heap = h) (hc : cells + rm.cells ≤ R.cells) (hs : slots + rm.slots ≤ R.slots) :
    ∃ v T' L, Stand p l e R s m args below meth c T' (locs ++ L) (cells + rm.cells) (slots + rm.slots) ∧ Q v T'.heap L ∧ ∀ target, Steps p.tables e below (T'.setTop { g with pc := g.pc + 3, stack := v.toList ++ rest }) target → Steps p.tables e below (T.setTop g) target := by
  obtain ⟨v, _, ⟨T', L', k', n'⟩, -, X', ⟨Lc, hQ, l', y', z'⟩, st⟩ := Jvm.LawKit.callS X hx (y := y) hown (mvT hZ w1) (mvT hZ w2) (mvT hZ w3) (mvT hZ w4) hy (backOf (W := W) hM hZ w4 w3 hf hl) (g := g) hg hsz (argsL := argsL) (rest := rest) hlen hstk hW hd (fun _ _ => ⟨has, eT, hc, hs⟩)
  dsimp only [Pt.U, Pt.locs, Pt.cells, Pt.slots] at X' l' y' z' st hQ
  subst l' y' z'
  exact ⟨v, T', Lc, X', hQ, st⟩
theorem own_callI (X : Stand p l e R s m args below meth c T locs cells slots) (hx : p.tables.exec = Jvm.exec) (hZ : Z.Warmed39 s.vm) {own : String} {index : Nat} {y : MethodName} {bytes : ByteArray} {maxL : Nat} {rm : Room} {W : Nat} {Q : Option Value → Heap → List Loc → Prop} {a : Addr} {argsL rest : List Value} {as' : Array Value} (hyn : y.name = "<init>")
    (hown : s.vm.findClass own = some m.cls) (w1 : (Cond.methodLink own index y).before a0 Z = true) (w2 : (Cond.instanceMethod y).before a0 Z = true) (w3 : (Cond.initialized y.cls).before a0 Z = true) (w4 : (Cond.code y bytes maxL none).before a0 Z = true) (hy : y.cls ≠ "java/lang/invoke/MethodHandle" ∧ y.cls ≠ "java/lang/invoke/VarHandle")
    (hM : own_Met l Z y bytes maxL none [] rm h as' Q rm.cells rm.slots) (hf : rm.frames + 1 ≤ R.frames) (hl : W + (maxL + 11) + rm.locals ≤ R.locals) {g : JFrame} (hg : g.method = m) (hsz : g.locals.size = c.maxLocals) (has : (Value.ref a :: argsL).toArray = as') (hlen : ∀ sig, parseMethodDescriptor y.desc = some sig → argsL.length = sig.parameters.length) (hstk : g.stack = argsL.reverse ++ .ref a :: rest) (hW : 2 * g.monitorRoom + (rest.map fun v => v.category).sum ≤ W)
    (hd : decode c.code g.pc = .ok (.invokespecial index, 3)) (eT : T.heap = h) (hc : cells + rm.cells ≤ R.cells) (hs : slots + rm.slots ≤ R.slots) :
    ∃ v T' L, Stand p l e R s m args below meth c T' (locs ++ L) (cells + rm.cells) (slots + rm.slots) ∧ Q v T'.heap L ∧ ∀ target, Steps p.tables e below (T'.setTop { g with pc := g.pc + 3, stack := v.toList ++ rest }) target → Steps p.tables e below (T.setTop g) target := by
  obtain ⟨v, _, ⟨T', L', k', n'⟩, -, X', ⟨Lc, hQ, l', y', z'⟩, st⟩ := X.specialBack hx (y := y) hyn hown (mvT hZ w1) (mvT hZ w2) (mvT hZ w4) hy (backOf (W := W) hM hZ w4 w3 hf hl) (g := g) hg hsz (Steps.refl _) (a := a) (argsL := argsL) (rest := rest) hlen hstk hW hd (fun _ _ => ⟨has, eT, hc, hs⟩)
  dsimp only [Pt.U, Pt.locs, Pt.cells, Pt.slots] at X' l' y' z' st hQ
  subst l' y' z'
  exact ⟨v, T', Lc, X', hQ, fun t k => st.trans k⟩
theorem own_callV (X : Stand p l e R s m args below meth c T locs cells slots) (hx : p.tables.exec = Jvm.exec) (hZ : Z.Warmed39 s.vm) {own C : String} {index : Nat} {y z : MethodName} {bytes : ByteArray} {maxL : Nat} {ret : Option FieldType} {rm : Room} {W : Nat} {Q : Option Value → Heap → List Loc → Prop} {a : Addr} {argsL rest : List Value} {as' : Array Value}
    (hown : s.vm.findClass own = some m.cls) (w1 : (Cond.methodLink own index y).before a0 Z = true) (w2 : (Cond.declares y).before a0 Z = true) (hnf : NotFace s y) (wsel : (Cond.selects C y z).before a0 Z = true) (wi : (Cond.instanceMethod z).before a0 Z = true) (w3 : (Cond.initialized z.cls).before a0 Z = true) (w4 : (Cond.code z bytes maxL ret).before a0 Z = true) (hy : y.cls ≠ "java/lang/invoke/MethodHandle" ∧ y.cls ≠ "java/lang/invoke/VarHandle")
    (hM : own_Met l Z z bytes maxL ret [] rm h as' Q rm.cells rm.slots) (hf : rm.frames + 1 ≤ R.frames) (hl : W + (maxL + 11) + rm.locals ≤ R.locals) (E : Exa Z h a C) {g : JFrame} (hg : g.method = m) (hsz : g.locals.size = c.maxLocals) (has : (Value.ref a :: argsL).toArray = as') (hlen : ∀ sig, parseMethodDescriptor y.desc = some sig → argsL.length = sig.parameters.length) (hstk : g.stack = argsL.reverse ++ .ref a :: rest) (hW : 2 * g.monitorRoom + (rest.map fun v => v.category).sum ≤ W)
    (hd : decode c.code g.pc = .ok (.invokevirtual index, 3)) (eT : T.heap = h) (hc : cells + rm.cells ≤ R.cells) (hs : slots + rm.slots ≤ R.slots) :
    ∃ v T' L, Stand p l e R s m args below meth c T' (locs ++ L) (cells + rm.cells) (slots + rm.slots) ∧ Q v T'.heap L ∧ ∀ target, Steps p.tables e below (T'.setTop { g with pc := g.pc + 3, stack := v.toList ++ rest }) target → Steps p.tables e below (T.setTop g) target := by
  obtain ⟨cq, kq, qa, qb, qc⟩ := isOf hZ eT E
  obtain ⟨v, _, ⟨T', L', k', n'⟩, -, X', ⟨Lc, hQ, l', y', z'⟩, st⟩ := X.virtualBack hx (y := y) (z := z) hown (mvT hZ w1) (mvT hZ w2) hnf (mvT hZ wsel) (mvT hZ wi) hy (backOf (W := W) hM hZ w4 w3 hf hl) qa qc (g := g) hg hsz (Steps.refl _) (argsL := argsL) (rest := rest) hlen hstk hW hd (fun _ _ => ⟨has, eT, hc, hs⟩)
  dsimp only [Pt.U, Pt.locs, Pt.cells, Pt.slots] at X' l' y' z' st hQ
  subst l' y' z'
  exact ⟨v, T', Lc, X', hQ, fun t k => st.trans k⟩
theorem own_callP (X : Stand p l e R s m args below meth c T locs cells slots) (hx : p.tables.exec = Jvm.exec) (hZ : Z.Warmed39 s.vm) {own C : String} {index : Nat} {y : MethodName} {bytes : ByteArray} {maxL : Nat} {ret : Option FieldType} {rm : Room} {W : Nat} {Q : Option Value → Heap → List Loc → Prop} {a : Addr} {argsL rest : List Value} {as' : Array Value}
    (hown : s.vm.findClass own = some m.cls) (w1 : (Cond.methodLink own index y).before a0 Z = true) (wi : (Cond.instanceMethod y).before a0 Z = true) {kk : Nat} (wn : (Cond.instantiable y.cls kk).before a0 Z = true) (wp : (Cond.privateMethod y).before a0 Z = true) (w3 : (Cond.initialized y.cls).before a0 Z = true) (w4 : (Cond.code y bytes maxL ret).before a0 Z = true) (hy : y.cls ≠ "java/lang/invoke/MethodHandle" ∧ y.cls ≠ "java/lang/invoke/VarHandle")
    (hM : own_Met l Z y bytes maxL ret [] rm h as' Q rm.cells rm.slots) (hf : rm.frames + 1 ≤ R.frames) (hl : W + (maxL + 11) + rm.locals ≤ R.locals) (E : Exa Z h a C) {g : JFrame} (hg : g.method = m) (hsz : g.locals.size = c.maxLocals) (has : (Value.ref a :: argsL).toArray = as') (hlen : ∀ sig, parseMethodDescriptor y.desc = some sig → argsL.length = sig.parameters.length) (hstk : g.stack = argsL.reverse ++ .ref a :: rest) (hW : 2 * g.monitorRoom + (rest.map fun v => v.category).sum ≤ W)
    (hd : decode c.code g.pc = .ok (.invokevirtual index, 3)) (eT : T.heap = h) (hc : cells + rm.cells ≤ R.cells) (hs : slots + rm.slots ≤ R.slots) :
    ∃ v T' L, Stand p l e R s m args below meth c T' (locs ++ L) (cells + rm.cells) (slots + rm.slots) ∧ Q v T'.heap L ∧ ∀ target, Steps p.tables e below (T'.setTop { g with pc := g.pc + 3, stack := v.toList ++ rest }) target → Steps p.tables e below (T.setTop g) target := by
  obtain ⟨cq, q1, q2⟩ := E.cell
  obtain ⟨ci, ki, hi1, hi2, -, hi4, -⟩ := Cond.instantiable_spec (mvT (args := args) hZ wn)
  have hsel : (Cond.selects y.cls y y).before args s = true := selects_self_of_private hi1 hi2 (by simp only [Bool.or_eq_false_iff] at hi4; exact hi4.1) (Cond.privateMethod_at (mvP hZ wp (args := #[]))) (mvT hZ wi) hy
  obtain ⟨v, _, ⟨T', L', k', n'⟩, -, X', ⟨Lc, hQ, l', y', z'⟩, st⟩ := X.privateBack hx (y := y) hown (mvT hZ w1) (mvT hZ wi) hsel (Cond.privateMethod_at (mvP hZ wp (args := #[]))) (mvT hZ w4) hy (backOf (W := W) hM hZ w4 w3 hf hl) (g := g) hg hsz (Steps.refl _) (a := a) (by rw [eT]; exact q1) q2 (argsL := argsL) (rest := rest) hlen hstk hW hd (fun _ _ => ⟨has, eT, hc, hs⟩)
  dsimp only [Pt.U, Pt.locs, Pt.cells, Pt.slots] at X' l' y' z' st hQ
  subst l' y' z'
  exact ⟨v, T', Lc, X', hQ, fun t k => st.trans k⟩
end Own

theorem own_h {a0 : Array Value} {Z : State} (hw : ∀ d ∈ tables_1, d.before a0 Z = true) (i : Nat) {d : Jvm.Cond} (h : tables_1[i]? = some d) : d.before a0 Z = true := hw d (List.mem_of_getElem? h)
def own_b (b : Bool) : Int32 := cond b 1 0
theorem own_b0 {b : Bool} (h : b = false) : own_b b = 0 := by subst h; rfl
theorem own_b1 {b : Bool} (h : ¬ b = false) : ¬ own_b b = 0 := by cases b; exact absurd rfl h; decide
theorem own_narb (b : Bool) : nar .boolean (own_b b) = own_b b := by cases b <;> rfl
theorem own_lclt {a b : Int64} (h : a < b) : lcmpW a b < 0 := by rw [lcW]; exact (lc_lt a b).mpr h
theorem own_lcltN {a b : Int64} (h : ¬ a < b) : ¬ lcmpW a b < 0 := fun q => by rw [lcW] at q; exact h ((lc_lt a b).mp q)
theorem own_lcgt {a b : Int64} (h : b < a) : 0 < lcmpW a b := by rw [lcW]; exact (lc_gt a b).mpr h
theorem own_lcgtN {a b : Int64} (h : ¬ b < a) : ¬ 0 < lcmpW a b := fun q => by rw [lcW] at q; exact h ((lc_gt a b).mp q)
theorem own_lceq {a b : Int64} (h : a = b) : lcmpW a b = 0 := by rw [lcW]; exact (lc_eq a b).mpr h
theorem own_lceqN {a b : Int64} (h : ¬ a = b) : ¬ lcmpW a b = 0 := fun q => by rw [lcW] at q; exact h ((lc_eq a b).mp q)
theorem own_insKeep {Z : State} {h h' : Heap} {a : Addr} {C : String} {bo : Bool} {ws : List Addr} (F : Ins Z h a C bo) (K : Keep h h' ws) : Ins Z h' a C bo := by
  obtain ⟨cell, cT, h1, h2, h3⟩ := F
  obtain ⟨c', q1, q2, q3, -⟩ := K.2.2 _ _ h1
  exact ⟨c', cT, q1, h2, by rw [q2, q3]; exact h3⟩
theorem own_staKeep {Z : State} {h h' : Heap} {C n d : String} {v : Value} (F : Sta Z h C n d v) (K : Keep h h' []) : Sta Z h' C n d v := by
  obtain ⟨cf, i, k, f, st, cell, h1, h2, h3, h4, h5, r⟩ := F
  exact ⟨cf, i, k, f, st, cell, h1, h2, h3, h4, K.2.1 _ _ h5 nin0, r⟩
theorem own_narR {t : FieldType} {w : Value} (hw : w.isRef = true) : narrow t w = w := by rcases ref_cases hw with rfl | ⟨z, rfl⟩ <;> cases t <;> rfl
theorem own_fitR {n : String} {w : Value} (hw : w.isRef = true) : fits (.object n) w = true := by rcases ref_cases hw with rfl | ⟨z, rfl⟩ <;> rfl
theorem own_len {p : Program} {l : Launch} {e : Env} {R : Room} {s : State} {m : MethodId} {args : Array Value} {below : List Frame} {meth : Method} {c : Code} {T : State} {locs : List Loc} {cells slots : Nat} {Z : State} {h : Heap} (X : Stand p l e R s m args below meth c T locs cells slots) (hx : p.tables.exec = Jvm.exec) (hZ : Z.Warmed39 s.vm) (eT : T.heap = h) {a : Addr} {cl : Cell} {ty : FieldType} {z : Int32} (A : Arr Z h a cl ty) (S : cl.slots.size = z.toNatClampNeg) (hz : ¬ z < 0)
    {g : JFrame} (hg : g.method = m) {rest : List Value} (hs : g.stack = .ref a :: rest) (hd : decode c.code g.pc = .ok (.arraylength, 1)) {target : State} (k : Steps p.tables e below (T.setTop { g with pc := g.pc + 1, stack := .int z :: rest }) target) : Steps p.tables e below (T.setTop g) target := by
  refine X.arraylength hx (by rw [eT]; exact A.1) (State.isArrayOf_alike hZ.alike A.2.1) (g := g) hg hs hd _ ?_
  rw [len_of S hz]
  exact k
def own_isB (c : Int32) : Bool := decide (c = 32 ∨ c = 9 ∨ c = 13 ∨ c = 10)
theorem own_isNeg {c : Int32} (h : c < 0) : own_isB c = false := by
  refine decide_eq_false fun q => ?_
  rcases q with rfl | rfl | rfl | rfl <;> revert h <;> decide
theorem own_isBig {c : Int32} (h : (32 : Int32) < c) : own_isB c = false := by
  refine decide_eq_false fun q => ?_
  rcases q with rfl | rfl | rfl | rfl <;> revert h <;> decide
theorem own_refAll : ∀ k : Fin 33, (((((4294977024 : Int64).toUInt64 >>> ((Int32.ofNat k.val) &&& 0x3f).toInt64.toUInt64).toInt64) &&& (1 : Int64)) = (0 : Int64)) ↔ own_isB (Int32.ofNat k.val) = false := by decide +kernel
theorem own_refMid {c : Int32} (h1 : ¬ c < 0) (h2 : ¬ (32 : Int32) < c) : (((((4294977024 : Int64).toUInt64 >>> (c &&& 0x3f).toInt64.toUInt64).toInt64) &&& (1 : Int64)) = (0 : Int64)) ↔ own_isB c = false := by
  have e0 : (0 : Int32).toInt = 0 := rfl
  have e1 : (32 : Int32).toInt = 32 := rfl
  rw [Int32.lt_iff_toInt_lt] at h1 h2
  have q := own_refAll ⟨c.toInt.toNat, by omega⟩
  have e : Int32.ofNat c.toInt.toNat = c := by
    apply Int32.toInt_inj.mp
    rw [Int32.toInt_ofNat_of_lt (by omega)]
    omega
  rwa [e] at q
abbrev own_y0 : MethodName := ⟨"com/example/gazetteer/gazetteer/io/XmlSpace", "is", "(I)Z"⟩
theorem own_pn0 : plainName "com/example/gazetteer/gazetteer/io/XmlSpace" = true := by first | (simp [plainName, overriddenIn]; done) | decide +kernel
theorem own_d1_0 : decode prog_55_method_2_code 0 = .ok (.iload_n 0, 1) := by decide +kernel
theorem own_d1_1 : decode prog_55_method_2_code 1 = .ok (.bipush 32, 2) := by decide +kernel
theorem own_d1_3 : decode prog_55_method_2_code 3 = .ok (.if_icmp .eq 21, 3) := by decide +kernel
theorem own_d1_6 : decode prog_55_method_2_code 6 = .ok (.iload_n 0, 1) := by decide +kernel
theorem own_d1_7 : decode prog_55_method_2_code 7 = .ok (.bipush 9, 2) := by decide +kernel
theorem own_d1_9 : decode prog_55_method_2_code 9 = .ok (.if_icmp .eq 15, 3) := by decide +kernel
theorem own_d1_12 : decode prog_55_method_2_code 12 = .ok (.iload_n 0, 1) := by decide +kernel
theorem own_d1_13 : decode prog_55_method_2_code 13 = .ok (.bipush 13, 2) := by decide +kernel
theorem own_d1_15 : decode prog_55_method_2_code 15 = .ok (.if_icmp .eq 9, 3) := by decide +kernel
theorem own_d1_18 : decode prog_55_method_2_code 18 = .ok (.iload_n 0, 1) := by decide +kernel
theorem own_d1_19 : decode prog_55_method_2_code 19 = .ok (.bipush 10, 2) := by decide +kernel
theorem own_d1_21 : decode prog_55_method_2_code 21 = .ok (.if_icmp .ne 7, 3) := by decide +kernel
theorem own_d1_24 : decode prog_55_method_2_code 24 = .ok (.iconst 1, 1) := by decide +kernel
theorem own_d1_25 : decode prog_55_method_2_code 25 = .ok (.goto 4, 3) := by decide +kernel
theorem own_d1_28 : decode prog_55_method_2_code 28 = .ok (.iconst 0, 1) := by decide +kernel
theorem own_d1_29 : decode prog_55_method_2_code 29 = .ok (.ireturn, 1) := by decide +kernel
theorem own_ef1 (m : MethodId) (x0 : Int32) : entryFrame m #[(.int x0)] 1 = mkF m 0 #[iv x0] [] := by first | (simp [entryFrame, mkF, argsToLocals, Value.category]; done) | rfl
def own_Q1 (Z : State) (p1 : Int32) (h0 : Heap) (n0 : Nat) : Option Value → Heap → List Loc → Prop := fun v h L => v = some (.int (own_b (own_isB p1))) ∧ Fr n0 L ∧ h = h0
def own_R1 : Room := { frames := 0, cells := 0, slots := 0, locals := 0 }
set_option maxRecDepth 65536 in
set_option maxHeartbeats 40000000 in
theorem own_rm1 (l : Launch) (Z : State) (a0 : Array Value) (hw : ∀ d ∈ tables_1, d.before a0 Z = true) (ws : List Jvm.Cond) (p1 : Int32) (h0 : Heap) (n0 : Nat) (Z0 : n0 ≤ h0.size) :
    own_Met l Z own_y0 prog_55_method_2_code 1 (some .boolean) ws own_R1 h0 #[(.int p1)] (own_Q1 Z p1 h0 n0) own_R1.cells own_R1.slots := by
  refine own_start (plainFor_of_name own_pn0) ?_
  intro p e s m below meth c s₁ X0 hx hZ hby hml hret hlk hown hnm e0
  have hown : s.vm.findClass "com/example/gazetteer/gazetteer/io/XmlSpace" = some m.cls := hown
  have hml : c.maxLocals = 1 := hml
  have N0 := Fr.nil n0
  refine own_cast (own_ef1 m p1) ?_
  refine own_s s₁ (mkF m 3 #[iv p1] [(.int 32), (.int p1)]) (fun _ k => XS.iloadN X0.here hx rfl (hb hby own_d1_0) rfl  (XS.bipush X0.here hx rfl (hb hby own_d1_1) k)) ?_
  by_cases c3 : p1 = (32 : Int32)
  · refine own_s s₁ (mkF m 29 #[iv p1] [(.int 1)]) (fun _ k => XS.icmpYes X0.here hx rfl (pc0 := 3) (pc' := 24) rfl (hb hby own_d1_3) rfl (teq c3).1 (by decide) (by decide) (XS.iconst X0.here hx rfl (hb hby own_d1_24) (XS.goto X0.here hx rfl (pc0 := 25) (pc' := 29) rfl (hb hby own_d1_25) (by decide) (by decide) k))) ?_
    exact own_finZ X0 hx (t := .boolean) hret (by simp) (z' := (1 : Int32)) rfl (hb hby own_d1_29) (own_end (Qv := (own_Q1 Z p1 h0 n0)) X0 (own_some hret) hlk (by decide) (by decide) e0 ⟨by simp [own_isB, own_b, c3], N0, rfl⟩)
  · refine own_s s₁ (mkF m 9 #[iv p1] [(.int 9), (.int p1)]) (fun _ k => XS.icmpNo X0.here hx rfl (hb hby own_d1_3) rfl (feq c3).1 (XS.iloadN X0.here hx rfl (hb hby own_d1_6) rfl  (XS.bipush X0.here hx rfl (hb hby own_d1_7) k))) ?_
    by_cases c9 : p1 = (9 : Int32)
    · refine own_s s₁ (mkF m 29 #[iv p1] [(.int 1)]) (fun _ k => XS.icmpYes X0.here hx rfl (pc0 := 9) (pc' := 24) rfl (hb hby own_d1_9) rfl (teq c9).1 (by decide) (by decide) (XS.iconst X0.here hx rfl (hb hby own_d1_24) (XS.goto X0.here hx rfl (pc0 := 25) (pc' := 29) rfl (hb hby own_d1_25) (by decide) (by decide) k))) ?_
      exact own_finZ X0 hx (t := .boolean) hret (by simp) (z' := (1 : Int32)) rfl (hb hby own_d1_29) (own_end (Qv := (own_Q1 Z p1 h0 n0)) X0 (own_some hret) hlk (by decide) (by decide) e0 ⟨by simp [own_isB, own_b, c3, c9], N0, rfl⟩)
    · refine own_s s₁ (mkF m 15 #[iv p1] [(.int 13), (.int p1)]) (fun _ k => XS.icmpNo X0.here hx rfl (hb hby own_d1_9) rfl (feq c9).1 (XS.iloadN X0.here hx rfl (hb hby own_d1_12) rfl  (XS.bipush X0.here hx rfl (hb hby own_d1_13) k))) ?_
      by_cases c15 : p1 = (13 : Int32)
      · refine own_s s₁ (mkF m 29 #[iv p1] [(.int 1)]) (fun _ k => XS.icmpYes X0.here hx rfl (pc0 := 15) (pc' := 24) rfl (hb hby own_d1_15) rfl (teq c15).1 (by decide) (by decide) (XS.iconst X0.here hx rfl (hb hby own_d1_24) (XS.goto X0.here hx rfl (pc0 := 25) (pc' := 29) rfl (hb hby own_d1_25) (by decide) (by decide) k))) ?_
        exact own_finZ X0 hx (t := .boolean) hret (by simp) (z' := (1 : Int32)) rfl (hb hby own_d1_29) (own_end (Qv := (own_Q1 Z p1 h0 n0)) X0 (own_some hret) hlk (by decide) (by decide) e0 ⟨by simp [own_isB, own_b, c15, c3, c9], N0, rfl⟩)
      · refine own_s s₁ (mkF m 21 #[iv p1] [(.int 10), (.int p1)]) (fun _ k => XS.icmpNo X0.here hx rfl (hb hby own_d1_15) rfl (feq c15).1 (XS.iloadN X0.here hx rfl (hb hby own_d1_18) rfl  (XS.bipush X0.here hx rfl (hb hby own_d1_19) k))) ?_
        by_cases c21 : p1 = (10 : Int32)
        · refine own_s s₁ (mkF m 29 #[iv p1] [(.int 1)]) (fun _ k => XS.icmpNo X0.here hx rfl (hb hby own_d1_21) rfl (teq c21).2 (XS.iconst X0.here hx rfl (hb hby own_d1_24) (XS.goto X0.here hx rfl (pc0 := 25) (pc' := 29) rfl (hb hby own_d1_25) (by decide) (by decide) k))) ?_
          exact own_finZ X0 hx (t := .boolean) hret (by simp) (z' := (1 : Int32)) rfl (hb hby own_d1_29) (own_end (Qv := (own_Q1 Z p1 h0 n0)) X0 (own_some hret) hlk (by decide) (by decide) e0 ⟨by simp [own_isB, own_b, c15, c21, c3, c9], N0, rfl⟩)
        · refine own_s s₁ (mkF m 29 #[iv p1] [(.int 0)]) (fun _ k => XS.icmpYes X0.here hx rfl (pc0 := 21) (pc' := 28) rfl (hb hby own_d1_21) rfl (feq c21).2 (by decide) (by decide) (XS.iconst X0.here hx rfl (hb hby own_d1_28) k)) ?_
          exact own_finZ X0 hx (t := .boolean) hret (by simp) (z' := (0 : Int32)) rfl (hb hby own_d1_29) (own_end (Qv := (own_Q1 Z p1 h0 n0)) X0 (own_some hret) hlk (by decide) (by decide) e0 ⟨by simp [own_isB, own_b, c15, c21, c3, c9], N0, rfl⟩)
abbrev own_y1 : MethodName := ⟨"com/example/gazetteer/gazetteer/io/XmlSpaceIsPinLaw", "ref", "(I)Z"⟩
theorem own_pn1 : plainName "com/example/gazetteer/gazetteer/io/XmlSpaceIsPinLaw" = true := by first | (simp [plainName, overriddenIn]; done) | decide +kernel
theorem own_d2_0 : decode method_2_code 0 = .ok (.iload_n 0, 1) := by decide +kernel
theorem own_d2_1 : decode method_2_code 1 = .ok (.ifCond .lt 9, 3) := by decide +kernel
theorem own_d2_4 : decode method_2_code 4 = .ok (.iload_n 0, 1) := by decide +kernel
theorem own_d2_5 : decode method_2_code 5 = .ok (.bipush 32, 2) := by decide +kernel
theorem own_d2_7 : decode method_2_code 7 = .ok (.if_icmp .le 5, 3) := by decide +kernel
theorem own_d2_10 : decode method_2_code 10 = .ok (.iconst 0, 1) := by decide +kernel
theorem own_d2_11 : decode method_2_code 11 = .ok (.ireturn, 1) := by decide +kernel
theorem own_d2_12 : decode method_2_code 12 = .ok (.ldc2_w 7, 3) := by decide +kernel
theorem own_d2_15 : decode method_2_code 15 = .ok (.lstore_n 1, 1) := by decide +kernel
theorem own_d2_16 : decode method_2_code 16 = .ok (.lload_n 1, 1) := by decide +kernel
theorem own_d2_17 : decode method_2_code 17 = .ok (.iload_n 0, 1) := by decide +kernel
theorem own_d2_18 : decode method_2_code 18 = .ok (.lushr, 1) := by decide +kernel
theorem own_d2_19 : decode method_2_code 19 = .ok (.lconst 1, 1) := by decide +kernel
theorem own_d2_20 : decode method_2_code 20 = .ok (.land, 1) := by decide +kernel
theorem own_d2_21 : decode method_2_code 21 = .ok (.lconst 0, 1) := by decide +kernel
theorem own_d2_22 : decode method_2_code 22 = .ok (.lcmp, 1) := by decide +kernel
theorem own_d2_23 : decode method_2_code 23 = .ok (.ifCond .eq 7, 3) := by decide +kernel
theorem own_d2_26 : decode method_2_code 26 = .ok (.iconst 1, 1) := by decide +kernel
theorem own_d2_27 : decode method_2_code 27 = .ok (.goto 4, 3) := by decide +kernel
theorem own_d2_30 : decode method_2_code 30 = .ok (.iconst 0, 1) := by decide +kernel
theorem own_d2_31 : decode method_2_code 31 = .ok (.ireturn, 1) := by decide +kernel
theorem own_ef2 (m : MethodId) (x0 : Int32) : entryFrame m #[(.int x0)] 3 = mkF m 0 #[iv x0, u_, u_] [] := by first | (simp [entryFrame, mkF, argsToLocals, Value.category]; done) | rfl
def own_Q2 (Z : State) (p1 : Int32) (h0 : Heap) (n0 : Nat) : Option Value → Heap → List Loc → Prop := fun v h L => v = some (.int (own_b (own_isB p1))) ∧ Fr n0 L ∧ h = h0
def own_R2 : Room := { frames := 0, cells := 0, slots := 0, locals := 0 }
set_option maxRecDepth 65536 in
set_option maxHeartbeats 40000000 in
theorem own_rm2 (l : Launch) (Z : State) (a0 : Array Value) (hw : ∀ d ∈ tables_1, d.before a0 Z = true) (ws : List Jvm.Cond) (p1 : Int32) (h0 : Heap) (n0 : Nat) (Z0 : n0 ≤ h0.size) :
    own_Met l Z own_y1 method_2_code 3 (some .boolean) ws own_R2 h0 #[(.int p1)] (own_Q2 Z p1 h0 n0) own_R2.cells own_R2.slots := by
  refine own_start (plainFor_of_name own_pn1) ?_
  intro p e s m below meth c s₁ X0 hx hZ hby hml hret hlk hown hnm e0
  have hown : s.vm.findClass "com/example/gazetteer/gazetteer/io/XmlSpaceIsPinLaw" = some m.cls := hown
  have hml : c.maxLocals = 3 := hml
  have N0 := Fr.nil n0
  refine own_cast (own_ef2 m p1) ?_
  refine own_s s₁ (mkF m 1 #[iv p1, u_, u_] [(.int p1)]) (fun _ k => XS.iloadN X0.here hx rfl (hb hby own_d2_0) rfl  k) ?_
  by_cases c1 : p1 < (0 : Int32)
  · refine own_s s₁ (mkF m 11 #[iv p1, u_, u_] [(.int 0)]) (fun _ k => XS.ifYes X0.here hx rfl (pc0 := 1) (pc' := 10) rfl (hb hby own_d2_1) rfl ((if0 _ _).trans (tlt c1).1) (by decide) (by decide) (XS.iconst X0.here hx rfl (hb hby own_d2_10) k)) ?_
    exact own_finZ X0 hx (t := .boolean) hret (by simp) (z' := (0 : Int32)) rfl (hb hby own_d2_11) (own_end (Qv := (own_Q2 Z p1 h0 n0)) X0 (own_some hret) hlk (by decide) (by decide) e0 ⟨by rw [(own_isNeg c1)]; rfl, N0, rfl⟩)
  · refine own_s s₁ (mkF m 7 #[iv p1, u_, u_] [(.int 32), (.int p1)]) (fun _ k => XS.ifNo X0.here hx rfl (hb hby own_d2_1) rfl ((if0 _ _).trans (flt c1).1) (XS.iloadN X0.here hx rfl (hb hby own_d2_4) rfl  (XS.bipush X0.here hx rfl (hb hby own_d2_5) k))) ?_
    by_cases c7 : (32 : Int32) < p1
    · refine own_s s₁ (mkF m 11 #[iv p1, u_, u_] [(.int 0)]) (fun _ k => XS.icmpNo X0.here hx rfl (hb hby own_d2_7) rfl (tlt c7).2.2.2 (XS.iconst X0.here hx rfl (hb hby own_d2_10) k)) ?_
      exact own_finZ X0 hx (t := .boolean) hret (by simp) (z' := (0 : Int32)) rfl (hb hby own_d2_11) (own_end (Qv := (own_Q2 Z p1 h0 n0)) X0 (own_some hret) hlk (by decide) (by decide) e0 ⟨by rw [(own_isBig c7)]; rfl, N0, rfl⟩)
    · refine own_s s₁ (mkF m 12 #[iv p1, u_, u_] []) (fun _ k => XS.icmpYes X0.here hx rfl (pc0 := 7) (pc' := 12) rfl (hb hby own_d2_7) rfl (flt c7).2.2.2 (by decide) (by decide) k) ?_
      refine own_s s₁ (mkF m 15 #[iv p1, u_, u_] [(.long 4294977024)]) (X0.ldc2Long hx hown (mvT hZ (own_h hw 8 rfl)) (g := (mkF m 12 #[iv p1, u_, u_] [])) rfl (hb hby own_d2_12)) ?_
      refine own_s s₁ (mkF m 20 #[iv p1, .val (.long 4294977024), v_] [(.long 1), (.long (((4294977024 : Int64).toUInt64 >>> (p1 &&& 0x3f).toInt64.toUInt64).toInt64))]) (fun _ k => XS.lstoreN X0.here hx rfl (hb hby own_d2_15) rfl (l' := #[iv p1, .val (.long 4294977024), v_]) rfl (XS.lloadN X0.here hx rfl (hb hby own_d2_16) rfl  (XS.iloadN X0.here hx rfl (hb hby own_d2_17) rfl  (XS.lushr X0.here hx rfl (hb hby own_d2_18) rfl (XS.lconst X0.here hx rfl (hb hby own_d2_19) k))))) ?_
      refine own_s s₁ (mkF m 23 #[iv p1, .val (.long 4294977024), v_] [(.int (lcmpW ((((4294977024 : Int64).toUInt64 >>> (p1 &&& 0x3f).toInt64.toUInt64).toInt64) &&& (1 : Int64)) (0 : Int64)))]) (fun _ k => XS.land X0.here hx rfl (hb hby own_d2_20) rfl (XS.lconst X0.here hx rfl (hb hby own_d2_21) (XS.lcmp X0.here hx rfl (hb hby own_d2_22) rfl k))) ?_
      by_cases c23 : ((((4294977024 : Int64).toUInt64 >>> (p1 &&& 0x3f).toInt64.toUInt64).toInt64) &&& (1 : Int64)) = (0 : Int64)
      · refine own_s s₁ (mkF m 31 #[iv p1, .val (.long 4294977024), v_] [(.int 0)]) (fun _ k => XS.ifYes X0.here hx rfl (pc0 := 23) (pc' := 30) rfl (hb hby own_d2_23) rfl ((if0 _ _).trans (teq (own_lceq c23)).1) (by decide) (by decide) (XS.iconst X0.here hx rfl (hb hby own_d2_30) k)) ?_
        exact own_finZ X0 hx (t := .boolean) hret (by simp) (z' := (0 : Int32)) rfl (hb hby own_d2_31) (own_end (Qv := (own_Q2 Z p1 h0 n0)) X0 (own_some hret) hlk (by decide) (by decide) e0 ⟨by rw [((own_refMid c1 c7).mp c23)]; rfl, N0, rfl⟩)
      · refine own_s s₁ (mkF m 31 #[iv p1, .val (.long 4294977024), v_] [(.int 1)]) (fun _ k => XS.ifNo X0.here hx rfl (hb hby own_d2_23) rfl ((if0 _ _).trans (feq (own_lceqN c23)).1) (XS.iconst X0.here hx rfl (hb hby own_d2_26) (XS.goto X0.here hx rfl (pc0 := 27) (pc' := 31) rfl (hb hby own_d2_27) (by decide) (by decide) k))) ?_
        exact own_finZ X0 hx (t := .boolean) hret (by simp) (z' := (1 : Int32)) rfl (hb hby own_d2_31) (own_end (Qv := (own_Q2 Z p1 h0 n0)) X0 (own_some hret) hlk (by decide) (by decide) e0 ⟨by rw [Bool.of_not_eq_false (fun q => c23 ((own_refMid c1 c7).mpr q))]; rfl, N0, rfl⟩)
theorem own_pd0 : parseMethodDescriptor "(I)Z" = some ⟨[.int], some .boolean⟩ := by decide +kernel
theorem own_ef0 (m : MethodId) (x0 : Int32) (x1 : Int32) : entryFrame m #[(.int x0), (.int x1)] maxLocals = mkF m 0 #[iv x0, iv x1, u_, u_, u_] [] := by first | (simp [entryFrame, mkF, argsToLocals, Value.category, maxLocals]; done) | rfl
def own_Q0 (Z : State) (p1 : Int32) (p2 : Int32) (h0 : Heap) (n0 : Nat) : Option Value → Heap → List Loc → Prop := fun v h L => v = some (.int 1) ∧ Fr n0 L
set_option maxRecDepth 65536 in
set_option maxHeartbeats 40000000 in
theorem own_rm0 (l : Launch) (Z : State) (a0 : Array Value) (hw : ∀ d ∈ tables_1, d.before a0 Z = true) (ws : List Jvm.Cond) (p1 : Int32) (p2 : Int32) (h0 : Heap) (n0 : Nat) (Z0 : n0 ≤ h0.size) :
    own_Met l Z x code maxLocals ret ws room_1 h0 #[(.int p1), (.int p2)] (own_Q0 Z p1 p2 h0 n0) 0 0 := by
  refine own_start (plainFor_of_name own_pn1) ?_
  intro p e s m below meth c s₁ X0 hx hZ hby hml hret hlk hown hnm e0
  have hown : s.vm.findClass "com/example/gazetteer/gazetteer/io/XmlSpaceIsPinLaw" = some m.cls := hown
  have hml : c.maxLocals = 5 := hml
  have N0 := Fr.nil n0
  refine own_cast (own_ef0 m p1 p2) ?_
  refine own_s s₁ (mkF m 7 #[iv p1, iv p2, u_, u_, u_] [(.int ((p2 &&& (63 : Int32)) - (16 : Int32)))]) (fun _ k => XS.iloadN X0.here hx rfl (hb hby at_0) rfl  (XS.bipush X0.here hx rfl (hb hby at_1) (XS.iand X0.here hx rfl (hb hby at_3) rfl (XS.bipush X0.here hx rfl (hb hby at_4) (XS.isub X0.here hx rfl (hb hby at_6) rfl k))))) ?_
  refine own_s s₁ (mkF m 9 #[iv p1, iv p2, iv ((p2 &&& (63 : Int32)) - (16 : Int32)), u_, u_] [(.int p1)]) (fun _ k => XS.istoreN X0.here hx rfl (hb hby at_7) rfl (l' := #[iv p1, iv p2, iv ((p2 &&& (63 : Int32)) - (16 : Int32)), u_, u_]) rfl (XS.iloadN X0.here hx rfl (hb hby at_8) rfl  k)) ?_
  obtain ⟨v1, T1, L1, X1, hQ1, st1⟩ := own_callS X0 hx hZ (y := own_y0) (W := 0) hown (own_h hw 0 rfl) (own_h hw 1 rfl) (own_h hw 2 rfl) (own_h hw 3 rfl) (by decide) (own_rm1 l Z a0 hw [] p1 h0 n0 Z0) (by decide) (by decide) (g := (mkF m 9 #[iv p1, iv p2, iv ((p2 &&& (63 : Int32)) - (16 : Int32)), u_, u_] [(.int p1)])) rfl (by rw [hml]; rfl) (argsL := [(.int p1)]) (rest := []) rfl (lenOf own_pd0 rfl) rfl (by show 2 * 0 + _ ≤ _; exact Nat.le_of_eq rfl) (hb hby at_9) e0 (by decide) (by decide)
  obtain ⟨rfl, Nq1, e1⟩ := hQ1
  have N1 := Fr.app N0 Nq1
  refine own_s T1 (mkF m 12 #[iv p1, iv p2, iv ((p2 &&& (63 : Int32)) - (16 : Int32)), u_, u_] [(.int (own_b (own_isB p1)))]) st1 ?_
  refine own_s T1 (mkF m 13 #[iv p1, iv p2, iv ((p2 &&& (63 : Int32)) - (16 : Int32)), u_, u_] [(.int p1), (.int (own_b (own_isB p1)))]) (fun _ k => XS.iloadN X1.here hx rfl (hb hby at_12) rfl  k) ?_
  obtain ⟨v2, T2, L2, X2, hQ2, st2⟩ := own_callS X1 hx hZ (y := own_y1) (W := 1) hown (own_h hw 4 rfl) (own_h hw 5 rfl) (own_h hw 6 rfl) (own_h hw 7 rfl) (by decide) (own_rm2 l Z a0 hw [] p1 h0 n0 Z0) (by decide) (by decide) (g := (mkF m 13 #[iv p1, iv p2, iv ((p2 &&& (63 : Int32)) - (16 : Int32)), u_, u_] [(.int p1), (.int (own_b (own_isB p1)))])) rfl (by rw [hml]; rfl) (argsL := [(.int p1)]) (rest := [(.int (own_b (own_isB p1)))]) rfl (lenOf own_pd0 rfl) rfl (by show 2 * 0 + _ ≤ _; exact Nat.le_of_eq rfl) (hb hby at_13) e1 (by decide) (by decide)
  obtain ⟨rfl, Nq2, e2⟩ := hQ2
  have N2 := Fr.app N1 Nq2
  refine own_s T2 (mkF m 16 #[iv p1, iv p2, iv ((p2 &&& (63 : Int32)) - (16 : Int32)), u_, u_] [(.int (own_b (own_isB p1))), (.int (own_b (own_isB p1)))]) st2 ?_
  refine own_s T2 (mkF m 26 #[iv p1, iv p2, iv ((p2 &&& (63 : Int32)) - (16 : Int32)), iv 1, u_] [(.int ((p2 &&& (63 : Int32)) - (16 : Int32)))]) (fun _ k => XS.icmpNo X2.here hx rfl (hb hby at_16) rfl (teq rfl).2 (XS.iconst X2.here hx rfl (hb hby at_19) (XS.goto X2.here hx rfl (pc0 := 20) (pc' := 24) rfl (hb hby at_20) (by decide) (by decide) (XS.istoreN X2.here hx rfl (hb hby at_24) rfl (l' := #[iv p1, iv p2, iv ((p2 &&& (63 : Int32)) - (16 : Int32)), iv 1, u_]) rfl (XS.iloadN X2.here hx rfl (hb hby at_25) rfl  k))))) ?_
  obtain ⟨v3, T3, L3, X3, hQ3, st3⟩ := own_callS X2 hx hZ (y := own_y0) (W := 0) hown (own_h hw 0 rfl) (own_h hw 1 rfl) (own_h hw 2 rfl) (own_h hw 3 rfl) (by decide) (own_rm1 l Z a0 hw [] ((p2 &&& (63 : Int32)) - (16 : Int32)) h0 n0 Z0) (by decide) (by decide) (g := (mkF m 26 #[iv p1, iv p2, iv ((p2 &&& (63 : Int32)) - (16 : Int32)), iv 1, u_] [(.int ((p2 &&& (63 : Int32)) - (16 : Int32)))])) rfl (by rw [hml]; rfl) (argsL := [(.int ((p2 &&& (63 : Int32)) - (16 : Int32)))]) (rest := []) rfl (lenOf own_pd0 rfl) rfl (by show 2 * 0 + _ ≤ _; exact Nat.le_of_eq rfl) (hb hby at_26) e2 (by decide) (by decide)
  obtain ⟨rfl, Nq3, e3⟩ := hQ3
  have N3 := Fr.app N2 Nq3
  refine own_s T3 (mkF m 29 #[iv p1, iv p2, iv ((p2 &&& (63 : Int32)) - (16 : Int32)), iv 1, u_] [(.int (own_b (own_isB ((p2 &&& (63 : Int32)) - (16 : Int32)))))]) st3 ?_
  refine own_s T3 (mkF m 30 #[iv p1, iv p2, iv ((p2 &&& (63 : Int32)) - (16 : Int32)), iv 1, u_] [(.int ((p2 &&& (63 : Int32)) - (16 : Int32))), (.int (own_b (own_isB ((p2 &&& (63 : Int32)) - (16 : Int32)))))]) (fun _ k => XS.iloadN X3.here hx rfl (hb hby at_29) rfl  k) ?_
  obtain ⟨v4, T4, L4, X4, hQ4, st4⟩ := own_callS X3 hx hZ (y := own_y1) (W := 1) hown (own_h hw 4 rfl) (own_h hw 5 rfl) (own_h hw 6 rfl) (own_h hw 7 rfl) (by decide) (own_rm2 l Z a0 hw [] ((p2 &&& (63 : Int32)) - (16 : Int32)) h0 n0 Z0) (by decide) (by decide) (g := (mkF m 30 #[iv p1, iv p2, iv ((p2 &&& (63 : Int32)) - (16 : Int32)), iv 1, u_] [(.int ((p2 &&& (63 : Int32)) - (16 : Int32))), (.int (own_b (own_isB ((p2 &&& (63 : Int32)) - (16 : Int32)))))])) rfl (by rw [hml]; rfl) (argsL := [(.int ((p2 &&& (63 : Int32)) - (16 : Int32)))]) (rest := [(.int (own_b (own_isB ((p2 &&& (63 : Int32)) - (16 : Int32)))))]) rfl (lenOf own_pd0 rfl) rfl (by show 2 * 0 + _ ≤ _; exact Nat.le_of_eq rfl) (hb hby at_30) e3 (by decide) (by decide)
  obtain ⟨rfl, Nq4, e4⟩ := hQ4
  have N4 := Fr.app N3 Nq4
  refine own_s T4 (mkF m 33 #[iv p1, iv p2, iv ((p2 &&& (63 : Int32)) - (16 : Int32)), iv 1, u_] [(.int (own_b (own_isB ((p2 &&& (63 : Int32)) - (16 : Int32))))), (.int (own_b (own_isB ((p2 &&& (63 : Int32)) - (16 : Int32)))))]) st4 ?_
  refine own_s T4 (mkF m 44 #[iv p1, iv p2, iv ((p2 &&& (63 : Int32)) - (16 : Int32)), iv 1, iv 1] [(.int 1)]) (fun _ k => XS.icmpNo X4.here hx rfl (hb hby at_33) rfl (teq rfl).2 (XS.iconst X4.here hx rfl (hb hby at_36) (XS.goto X4.here hx rfl (pc0 := 37) (pc' := 41) rfl (hb hby at_37) (by decide) (by decide) (XS.istore X4.here hx rfl (hb hby at_41) rfl (l' := #[iv p1, iv p2, iv ((p2 &&& (63 : Int32)) - (16 : Int32)), iv 1, iv 1]) rfl (XS.iloadN X4.here hx rfl (hb hby at_43) rfl  k))))) ?_
  refine own_s T4 (mkF m 57 #[iv p1, iv p2, iv ((p2 &&& (63 : Int32)) - (16 : Int32)), iv 1, iv 1] [(.int 1)]) (fun _ k => XS.ifNo X4.here hx rfl (hb hby at_44) rfl ((if0 _ _).trans (feq (by decide : ¬ ((1 : Int32) = (0 : Int32)))).1) (XS.iload X4.here hx rfl (hb hby at_47) rfl  (XS.ifNo X4.here hx rfl (hb hby at_49) rfl ((if0 _ _).trans (feq (by decide : ¬ ((1 : Int32) = (0 : Int32)))).1) (XS.iconst X4.here hx rfl (hb hby at_52) (XS.goto X4.here hx rfl (pc0 := 53) (pc' := 57) rfl (hb hby at_53) (by decide) (by decide) k))))) ?_
  exact own_finZ X4 hx (t := .boolean) hret (by simp) (z' := (1 : Int32)) rfl (hb hby at_57) (own_end (Qv := (own_Q0 Z p1 p2 h0 n0)) X4 (own_some hret) hlk (by decide) (by decide) e4 ⟨rfl, N4⟩)
set_option maxRecDepth 65536 in
set_option maxHeartbeats 40000000 in
theorem comes_1 {Post : Tables → Env → Array Value → State → Outcome → State → Prop} (hpost : ∀ tb e args s v u, (limb_1_1.after args s (.returned v) u = true ∧ limb_1_2.after args s (.returned v) u = true ∧ True) → FrameEnd s (.returned v) u (Jvm.fieldLocs frame_1_writes args s ++ Jvm.arrayLocs frame_1_arrays args s ++ Jvm.staticLocs frame_1_statics s) 0 0 → Post tb e args s (.returned v) u) :
    ArmFor flags0 classFile x code maxLocals ret World_1 tables_1 room_1 Calls_1 rest_1 Pre_1 Post := by
  intro l hfl _ _ p e ha hc hk s m args below hf hA hF happ hP
  obtain ⟨hcalls, hrest, hpre⟩ := hP
  obtain ⟨-, -, -, hnamed, -, -, -, hat⟩ := (Spec.applies_iff hf).mp happ
  obtain ⟨hg, hn⟩ := and_e (Cond.before_iff.mp (show (Jvm.Cond.and given_1 narrow_1).before args s = true from hpre))
  obtain ⟨g1, g2⟩ := and_e hg
  obtain ⟨g3, g4⟩ := and_e g2
  obtain ⟨w0, w1, rfl⟩ : ∃ w0 w1 : Value, args = #[w0, w1] := by
    have hs : args.size = 2 := by simpa [Cond.value, given_1] using g1
    obtain ⟨L⟩ := args
    match L, hs with
    | [w0, w1], _ => exact ⟨w0, w1, rfl⟩
  have hw := fun d (hd : d ∈ tables_1) => atoms_spec (ws := Jvm.Cond.code x code maxLocals ret :: tables_1) hat d (List.mem_cons_of_mem _ hd)
  have hfit : Fit s := fun {y c} hc i hi => by
    obtain ⟨ha, rfl⟩ := Array.getElem?_eq_some_iff.mp hc
    have q := List.all_eq_true.mp ((Array.all_eq_true_iff_forall_mem.mp hF) _ (Array.getElem_mem ha)) i (List.mem_range.mpr hi)
    simpa [Array.getElem?_eq_getElem hi] using q
  obtain ⟨i0, ei0⟩ := is_v g3
  obtain rfl : w0 = (.int i0) := Option.some.inj ei0
  obtain ⟨i1, ei1⟩ := is_v g4
  obtain rfl : w1 = (.int i1) := Option.some.inj ei1
  obtain ⟨n, o, h1, h2, h3, _, L, rfl, ⟨rfl, N⟩, hq⟩ := own_rm0 l s _ hw tables_1 i0 i1 s.heap s.heap.size (Nat.le_refl _)  p e ha hc hk s m _ below hf ((Spec.applies_iff_loose hf).mp happ).1 ⟨rfl, State.Warmed39.refl s, rfl⟩ trivial
  refine ⟨n, _, h1, h2, h3, hpost _ _ _ _ _ _ ⟨Cond.after_iff.mpr rfl, Cond.after_iff.mpr (eq_i res_at (Term.int_eval (1)) rfl), trivial⟩ ⟨hq.1, hq.2.1, (hq.2.2.sift fun y hy => Or.inr (N y hy)).mono (by decide) (by decide)⟩⟩
theorem main_1_1 : Claimed_1_1 := comes_1 fun _ _ _ _ _ _ h hF => ⟨h.1, hF⟩
theorem main_1_2 : Claimed_1_2 := comes_1 fun _ _ _ _ _ _ h hF => ⟨h.2.1, hF⟩
end Jvm.Pilot.@@N@@
namespace Jvm.Pilot.@@N@@
open Jvm Jvm.ClassFile Sem Op Lib Jvm.Free Jvm.Stand Jvm.Pilot.@@N@@.Jvm.D
/-! MADE BY PROGRAM (witnessworld.py) out of the Statement's table words and the real class files: 9 classes; the members and pool entries that the words name. The judged class is class 1, her method 2. -/
namespace start1
open Jvm.ClassFile
def u (s : String) : CpInfo := .utf8 (stringToUtf16 s)
/-- a pool by its gaps: so many unusable entries, then the entry; so many at the end -/
def gap : Nat → List CpInfo → List CpInfo
  | 0, r => r
  | n + 1, r => .unusable :: gap n r
def poolList (es : List (Nat × CpInfo)) (last : Nat) : List CpInfo := es.foldr (fun e r => gap e.1 (e.2 :: r)) (gap last [])
def pool (es : List (Nat × CpInfo)) (last : Nat) : Array CpInfo := ⟨poolList es last⟩
def fileOf (pool : Array CpInfo) (this : Nat) (attrs : Array Attribute := #[]) (ms : Array MethodInfo := #[]) (fl : Nat := 33) (sup : Nat := 0) (ifs : Array Nat := #[]) (fds : Array FieldInfo := #[]) : ClassFile where
  minorVersion := 0
  majorVersion := 65
  constantPool := pool
  accessFlags := fl
  thisClass := this
  superClass := sup
  interfaces := ifs
  fields := fds
  methods := ms
  attributes := attrs
def plain (name : String) (sup : Option ClassId) : Class where
  name := name
  kind := .ordinary
  loader := none
  accessFlags := 33
  super := sup
  interfaces := #[]
  cf := none
  fields := #[]
  methods := #[]
  instanceTypes := #[]
  staticTypes := #[]
  resolved := #[]
  callSites := []
  init := .initialized
  statics := none
  mirror := none

def pool0 : Array CpInfo := pool [(5, u "<init>"), (0, u "()V"), (1, .class_ 10), (1, u "java/lang/Object")] 113

def k0m0 : Method := { name := "<init>", desc := "()V", sig := { parameters := [], returnType := none }, accessFlags := 1, code := none }
/-- java/lang/Object -/
def k0 : Class := { plain "java/lang/Object" none with
  accessFlags := 33
  interfaces := #[]
  cf := some (fileOf pool0 8 #[] #[{ accessFlags := 1, nameIndex := 5, descriptorIndex := 6, attributes := #[] }] 33 0 #[] #[])
  fields := #[]
  methods := #[k0m0]
  instanceTypes := #[]
  staticTypes := #[]
  resolved := Array.replicate 124 none
  statics := none }

def pool1 : Array CpInfo := pool [(2, .class_ 4), (1, u "java/lang/Object"), (0, u "<init>"), (0, u "()V"), (0, .long 4294977024), (1, .methodref 10 11), (0, .class_ 12), (0, .nameAndType 13 14), (0, u "com/example/gazetteer/gazetteer/io/XmlSpace"), (0, u "is"), (0, u "(I)Z"), (0, .methodref 16 17), (0, .class_ 18), (0, .nameAndType 19 14), (0, u "com/example/gazetteer/gazetteer/io/XmlSpaceIsPinLaw"), (0, u "ref"), (3, u "law"), (0, u "(II)Z")] 2

def k1m0 : Method := { name := "<init>", desc := "()V", sig := { parameters := [], returnType := none }, accessFlags := 2, code := none }
def k1c1 : Code := { maxStack := 4, maxLocals := 3, code := method_2_code, exceptionTable := #[], attributes := #[] }
def k1m1 : Method := { name := "ref", desc := "(I)Z", sig := { parameters := [.int], returnType := some .boolean }, accessFlags := 10, code := some k1c1 }
def k1c2 : Code := { maxStack := 2, maxLocals := 5, code := code, exceptionTable := #[], attributes := #[] }
def k1m2 : Method := { name := "law", desc := "(II)Z", sig := { parameters := [.int, .int], returnType := some .boolean }, accessFlags := 9, code := some k1c2 }
/-- com/example/gazetteer/gazetteer/io/XmlSpaceIsPinLaw -/
def k1 : Class := { plain "com/example/gazetteer/gazetteer/io/XmlSpaceIsPinLaw" (some 0) with
  accessFlags := 49
  interfaces := #[]
  cf := some (fileOf pool1 16 #[] #[{ accessFlags := 2, nameIndex := 5, descriptorIndex := 6, attributes := #[] }, { accessFlags := 10, nameIndex := 19, descriptorIndex := 14, attributes := #[] }, { accessFlags := 9, nameIndex := 23, descriptorIndex := 24, attributes := #[] }] 49 2 #[] #[])
  fields := #[]
  methods := #[k1m0, k1m1, k1m2]
  instanceTypes := #[]
  staticTypes := #[]
  resolved := Array.replicate 27 none
  statics := none }

def pool2 : Array CpInfo := pool [(2, .class_ 4), (1, u "java/lang/Object"), (0, u "<init>"), (0, u "()V"), (11, .class_ 20), (1, u "com/example/gazetteer/gazetteer/io/XmlSpace"), (0, u "is"), (0, u "(I)Z")] 15

def k2m0 : Method := { name := "<init>", desc := "()V", sig := { parameters := [], returnType := none }, accessFlags := 2, code := none }
def k2c1 : Code := { maxStack := 2, maxLocals := 1, code := prog_55_method_2_code, exceptionTable := #[], attributes := #[] }
def k2m1 : Method := { name := "is", desc := "(I)Z", sig := { parameters := [.int], returnType := some .boolean }, accessFlags := 8, code := some k2c1 }
/-- com/example/gazetteer/gazetteer/io/XmlSpace -/
def k2 : Class := { plain "com/example/gazetteer/gazetteer/io/XmlSpace" (some 0) with
  accessFlags := 48
  interfaces := #[]
  cf := some (fileOf pool2 18 #[] #[{ accessFlags := 2, nameIndex := 5, descriptorIndex := 6, attributes := #[] }, { accessFlags := 8, nameIndex := 21, descriptorIndex := 22, attributes := #[] }] 48 2 #[] #[])
  fields := #[]
  methods := #[k2m0, k2m1]
  instanceTypes := #[]
  staticTypes := #[]
  resolved := Array.replicate 38 none
  statics := none }

def pool3 : Array CpInfo := pool [(1, u "java/lang/Cloneable"), (0, .class_ 1), (0, u "java/lang/Object"), (0, .class_ 3)] 3

/-- java/lang/Cloneable -/
def k3 : Class := { plain "java/lang/Cloneable" (some 0) with
  accessFlags := 1537
  interfaces := #[]
  cf := some (fileOf pool3 2 #[] #[] 1537 4 #[] #[])
  fields := #[]
  methods := #[]
  instanceTypes := #[]
  staticTypes := #[]
  resolved := Array.replicate 8 none
  statics := none }

def pool4 : Array CpInfo := pool [(1, u "java/io/Serializable"), (0, .class_ 1), (0, u "java/lang/Object"), (0, .class_ 3)] 3

/-- java/io/Serializable -/
def k4 : Class := { plain "java/io/Serializable" (some 0) with
  accessFlags := 1537
  interfaces := #[]
  cf := some (fileOf pool4 2 #[] #[] 1537 4 #[] #[])
  fields := #[]
  methods := #[]
  instanceTypes := #[]
  staticTypes := #[]
  resolved := Array.replicate 8 none
  statics := none }

/-- the primitive byte -/
def k5 : Class := { plain "byte" none with kind := .primitive 'B', accessFlags := 0x411 }
/-- [B -/
def k6 : Class := { plain "[B" (some 0) with kind := .array 5 .byte, interfaces := #[3, 4], accessFlags := 1041 }

/-- the primitive int -/
def k7 : Class := { plain "int" none with kind := .primitive 'I', accessFlags := 0x411 }
/-- [I -/
def k8 : Class := { plain "[I" (some 0) with kind := .array 7 .int, interfaces := #[3, 4], accessFlags := 1041 }

def heap : Heap := #[]
def classes : Array Class := #[k0, k1, k2, k3, k4, k5, k6, k7, k8]
def interned : List (Array UInt16 × Addr) := []
def slotsUsed : Nat := 0
def theMethod : MethodId := ⟨1, 2⟩
def args0 : Array Value := #[.int 5, .int 7]
def aboutOver (below : List Frame) : State where
  vm := { classes := classes, interned := interned.toArray }
  heap := heap
  slotsUsed := slotsUsed
  threads := #[{ frames := .invoking theMethod args0 :: below }]
def below0 : List Frame := [.native { method := ⟨0, 0⟩, args := #[] }]
def about1 : State := aboutOver below0
def p0 : Program := .bare "" "" ""
def e0 : Env := launch0.env 0 0 0
theorem w_frames : about1.frames = Frame.invoking theMethod args0 :: below0 := rfl
set_option maxRecDepth 65536 in
theorem w_args : argsFit about1.vm theMethod args0 = true := by decide +kernel
set_option maxRecDepth 65536 in
theorem w_heap : heapFits about1 = true := by decide +kernel
set_option maxRecDepth 65536 in
theorem w_runnable : about1.curStatus? = some .runnable := by decide +kernel
set_option maxRecDepth 65536 in
theorem w_alone : about1.alone = true := by decide +kernel
set_option maxRecDepth 65536 in
theorem w_named : about1.methodNamed? x = some theMethod := by decide +kernel
set_option maxRecDepth 65536 in
theorem w_hears : about1.hears theMethod below0 = true := by decide +kernel
set_option maxRecDepth 65536 in
theorem w_ripe : about1.ripe theMethod args0 below0 = true := by decide +kernel
theorem w_running : about1.status = .running := rfl
set_option maxRecDepth 65536 in
theorem w_room : about1.hasRoom e0.platform room_1 = true :=
  launch0.hasRoom_least _ room_1 (by decide +kernel) (by decide +kernel) (by decide +kernel) (by decide +kernel) (by decide +kernel) (by decide +kernel)
theorem allAtoms_all (ts : List Jvm.Cond) (a : Array Jvm.Value) (st : Jvm.State) : (allAtoms ts).before a st = ts.all (fun c => c.before a st) := by
  induction ts with
  | nil => rfl
  | cons c t ih =>
    show (Jvm.Cond.and c (allAtoms t)).before a st = _
    rw [Jvm.Cond.before_and, ih, List.all_cons]
def words1 : List Jvm.Cond := Jvm.Cond.code x code maxLocals ret :: tables_1
/-- a 'code' word, met by the world's own term for the bytes: nothing is compared byte by byte -/
theorem code_word {y : MethodName} {bytes : ByteArray} {mx : Nat} {rt : Option FieldType} {a : Array Value} {s : State} {m : MethodId} {meth : Method} {c : Code} (h1 : s.methodNamed? y = some m) (h2 : s.vm.method? m = some meth) (h3 : meth.code = some c) (h4 : c.code = bytes)
    (h5 : (c.maxLocals == mx && c.exceptionTable.isEmpty && decide (c.maxStack ≤ mostOperands) && decide (meth.sig.returnType = rt) && !meth.locks && decide (parseMethodDescriptor y.desc = some meth.sig)) = true) : (Jvm.Cond.code y bytes mx rt).before a s = true := by
  simp only [Bool.and_eq_true, beq_iff_eq, Bool.not_eq_true', decide_eq_true_eq] at h5
  obtain ⟨⟨⟨⟨⟨g1, g2⟩, g3⟩, g4⟩, g5⟩, g6⟩ := h5
  simp [Cond.before, Cond.holds, Cond.value, h1, h2, h3, h4, g1, g2, g3, g4, g5, g6]
def isCode : Jvm.Cond → Bool
  | .code _ _ _ _ => true
  | _ => false
theorem all_split {L : List Jvm.Cond} {P : Jvm.Cond → Bool} (h1 : L.all (fun c => isCode c || P c) = true) (h2 : ∀ c ∈ L.filter isCode, P c = true) : L.all P = true := by
  refine List.all_eq_true.mpr fun c hc => ?_
  have h := List.all_eq_true.mp h1 c hc
  rcases Bool.eq_false_or_eq_true (isCode c) with hi | hi
  · exact h2 c (List.mem_filter.mpr ⟨hc, hi⟩)
  · simpa [hi] using h
set_option maxRecDepth 65536 in
theorem w_c0 : (Jvm.Cond.code x code maxLocals ret).before args0 about1 = true := code_word (m := ⟨1, 2⟩) (meth := k1m2) (c := k1c2) (by decide +kernel) rfl rfl rfl (by decide +kernel)
set_option maxRecDepth 65536 in
theorem w_c1 : (Jvm.Cond.code ({ cls := "com/example/gazetteer/gazetteer/io/XmlSpace", name := "is", desc := "(I)Z" } : Jvm.MethodName) prog_55_method_2_code (1 : Nat) (Option.some Jvm.ClassFile.FieldType.boolean)).before args0 about1 = true := code_word (m := ⟨2, 1⟩) (meth := k2m1) (c := k2c1) (by decide +kernel) rfl rfl rfl (by decide +kernel)
set_option maxRecDepth 65536 in
theorem w_c2 : (Jvm.Cond.code ({ cls := "com/example/gazetteer/gazetteer/io/XmlSpaceIsPinLaw", name := "ref", desc := "(I)Z" } : Jvm.MethodName) method_2_code (3 : Nat) (Option.some Jvm.ClassFile.FieldType.boolean)).before args0 about1 = true := code_word (m := ⟨1, 1⟩) (meth := k1m1) (c := k1c1) (by decide +kernel) rfl rfl rfl (by decide +kernel)
def codes1 : List Jvm.Cond := [Jvm.Cond.code x code maxLocals ret, Jvm.Cond.code ({ cls := "com/example/gazetteer/gazetteer/io/XmlSpace", name := "is", desc := "(I)Z" } : Jvm.MethodName) prog_55_method_2_code (1 : Nat) (Option.some Jvm.ClassFile.FieldType.boolean), Jvm.Cond.code ({ cls := "com/example/gazetteer/gazetteer/io/XmlSpaceIsPinLaw", name := "ref", desc := "(I)Z" } : Jvm.MethodName) method_2_code (3 : Nat) (Option.some Jvm.ClassFile.FieldType.boolean)]
set_option maxRecDepth 65536 in
theorem codes_eq : words1.filter isCode = codes1 := rfl
theorem w_codes : ∀ c ∈ words1.filter isCode, c.before args0 about1 = true := by
  rw [codes_eq]
  intro c hc
  simp only [codes1, List.mem_cons, List.not_mem_nil, or_false] at hc
  rcases hc with rfl | rfl | rfl
  · exact w_c0
  · exact w_c1
  · exact w_c2
set_option maxRecDepth 65536 in
theorem w_t1 : words1.all (fun c => isCode c || c.before args0 about1) = true := by decide +kernel
theorem w_tables : (allAtoms (Jvm.Cond.code x code maxLocals ret :: tables_1)).before args0 about1 = true := by
  rw [allAtoms_all]
  show words1.all (fun c => c.before args0 about1) = true
  refine all_split ?_ w_codes
  rw [w_t1]
set_option maxRecDepth 65536 in
theorem w_case : (Jvm.Cond.and given_1 narrow_1).before args0 about1 = true := by decide +kernel
theorem w_applies : (headSpec (Jvm.Cond.code x code maxLocals ret :: tables_1) room_1).applies x e0.platform about1 = true :=
  (Spec.applies_iff w_frames).mpr ⟨w_running, w_runnable, w_alone, w_named, w_hears, w_ripe, w_room, w_tables⟩
theorem atStart : AtStart classFile x code maxLocals ret World_1 tables_1 room_1 Calls_1 rest_1 Pre_1 launch0 p0 e0 about1 theMethod args0 below0 :=
  ⟨lists_1, trivial, launch0.admits_env _ _ _, launch0.least_env, fairChoices_fair.cas, fairChoices_fair.clock, w_frames, w_args, w_heap, w_applies, trivial, trivial, w_case⟩
end start1
theorem witness_1 : WitnessClaimed_1 := ⟨start1.p0, start1.e0, start1.about1, start1.theMethod, start1.args0, start1.below0, start1.atStart⟩
end Jvm.Pilot.@@N@@
