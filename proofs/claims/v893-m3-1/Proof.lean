import JvmDerived
import JvmDerived.Pilot.@@N@@Statement
import JvmDerived.Pilot.@@N@@Code
set_option linter.unusedVariables false
set_option linter.unusedSimpArgs false
namespace Jvm.Pilot.@@N@@
open Jvm Jvm.ClassFile Sem Op Lib Jvm.Free Jvm.Stand Jvm.LawKit Jvm.RoadKit Bundle Jvm.Pilot.@@N@@.Jvm.D
section Own
variable {p : Program} {l : Launch} {e : Env} {R : Room} {s : State} {m : MethodId} {args : Array Value} {below : List Frame} {meth : Method} {c : Code} {T : State} {locs : List Loc} {cells slots : Nat} {Z : State} {a0 : Array Value} {h : Heap}
def own_Go (p : Program) (e : Env) (below : List Frame) (Q : Outcome → State → Prop) (T : State) (g : JFrame) : Prop := ∃ s₂ o, Steps p.tables e below (T.setTop g) s₂ ∧ s₂.status = .running ∧ Ended s₂ below o ∧ Q o s₂
theorem own_st {Q : Outcome → State → Prop} {T T' : State} {g g' : JFrame} (h : ∀ t, Steps p.tables e below (T'.setTop g') t → Steps p.tables e below (T.setTop g) t) (k : own_Go p e below Q T' g') : own_Go p e below Q T g := by
  obtain ⟨s₂, o, h1, h2⟩ := k
  exact ⟨s₂, o, h _ h1, h2⟩
theorem own_s {Q : Outcome → State → Prop} {T : State} {g : JFrame} (T' : State) (g' : JFrame) (h : ∀ t, Steps p.tables e below (T'.setTop g') t → Steps p.tables e below (T.setTop g) t) (k : own_Go p e below Q T' g') : own_Go p e below Q T g := own_st h k
abbrev u_ : Slot := .unset
abbrev v_ : Slot := .second
theorem own_cast {Q : Outcome → State → Prop} {T : State} {g g' : JFrame} (q : g = g') (k : own_Go p e below Q T g') : own_Go p e below Q T g := q ▸ k
def own_Post (Qv : Option Value → Heap → List Loc → Prop) (kc ks : Nat) (U : State) (o : Outcome) (U' : State) : Prop := ∃ v L, o = .returned v ∧ Qv v U'.heap L ∧ FrameEnd U o U' L kc ks
def own_Met (l : Launch) (Z : State) (y : MethodName) (bytes : ByteArray) (maxL : Nat) (ret : Option FieldType) (ws : List Jvm.Cond) (rm : Room) (h0 : Heap) (as' : Array Value) (Qv : Option Value → Heap → List Loc → Prop) (kc ks : Nat) : Prop :=
  MetFree l y (head1 (Jvm.Cond.code y bytes maxL ret :: ws) rm) (fun a U => a = as' ∧ Z.Warmed39 U.vm ∧ U.heap = h0) (fun _ _ _ _ _ => True) (fun _ U o U' => own_Post Qv kc ks U o U')
theorem own_start {y : MethodName} {bytes : ByteArray} {maxL : Nat} {ret : Option FieldType} {ws : List Jvm.Cond} {rm : Room} {h0 : Heap} {as' : Array Value} {Qv : Option Value → Heap → List Loc → Prop} {kc ks : Nat} (hpl : plainFor y = true)
    (body : ∀ (p : Program) (e : Env) (s : State) (m : MethodId) (below : List Frame) (meth : Method) (c : Code) (s₁ : State), Stand p l e rm s m as' below meth c s₁ [] 0 0 → p.tables.exec = Jvm.exec → Z.Warmed39 s.vm → c.code = bytes → c.maxLocals = maxL → meth.sig.returnType = ret → meth.locks = false → s.vm.findClass y.cls = some m.cls → meth.name = y.name → s₁.heap = h0 → own_Go p e below (own_Post Qv kc ks s) s₁ (entryFrame m as' maxL)) :
    own_Met l Z y bytes maxL ret ws rm h0 as' Qv kc ks := by
  refine MetFree.of_bodySF hpl hisR ?_
  intro p e s m args below meth c s₁ Bd hml0 hP hK
  obtain ⟨rfl, hZ, hh⟩ := hP
  exact body p e s m below meth c s₁ (Stand.of_body Bd) Bd.exec hZ Bd.bytes hml0 Bd.returns Bd.notSynchronized (findClass_of_methodNamed Bd.named) (name_of_methodNamed Bd.named Bd.method).1 (by rw [← hh, Bd.state]; rfl)
def own_PostW (Qv : Option Value → Heap → Vm → List Loc → Prop) (kc ks : Nat) (U : State) (o : Outcome) (U' : State) : Prop := ∃ v L, o = .returned v ∧ Qv v U'.heap U'.vm L ∧ ReturnedEndW U o U' L kc ks
def own_MetW (l : Launch) (Z : State) (y : MethodName) (bytes : ByteArray) (maxL : Nat) (ret : Option FieldType) (ws : List Jvm.Cond) (rm : Room) (h0 : Heap) (J : Vm → Prop) (as' : Array Value) (Qv : Option Value → Heap → Vm → List Loc → Prop) (kc ks : Nat) : Prop :=
  MetFree l y (head1 (Jvm.Cond.code y bytes maxL ret :: ws) rm) (fun a U => a = as' ∧ Z.Warmed39 U.vm ∧ U.heap = h0 ∧ J U.vm) (fun _ _ _ _ _ => True) (fun _ U o U' => own_PostW Qv kc ks U o U')
theorem own_startW {y : MethodName} {bytes : ByteArray} {maxL : Nat} {ret : Option FieldType} {ws : List Jvm.Cond} {rm : Room} {h0 : Heap} {J : Vm → Prop} {as' : Array Value} {Qv : Option Value → Heap → Vm → List Loc → Prop} {kc ks : Nat} (hpl : plainFor y = true)
    (body : ∀ (p : Program) (e : Env) (s : State) (m : MethodId) (below : List Frame) (meth : Method) (c : Code) (s₁ : State), Stand p l e rm (s.setVm s.vm) m as' below meth c s₁ [] 0 0 → p.tables.exec = Jvm.exec → Z.Warmed39 s.vm → c.code = bytes → c.maxLocals = maxL → meth.sig.returnType = ret → meth.locks = false → s.vm.findClass y.cls = some m.cls → meth.name = y.name → s₁.heap = h0 → s.Since s.vm 0 → s.heap = h0 → J s.vm → own_Go p e below (own_PostW Qv kc ks s) s₁ (entryFrame m as' maxL)) :
    own_MetW l Z y bytes maxL ret ws rm h0 J as' Qv kc ks := by
  refine MetFree.of_bodySF hpl hisR ?_
  intro p e s m args below meth c s₁ Bd hml0 hP hK
  obtain ⟨rfl, hZ, hh, hJ⟩ := hP
  exact body p e s m below meth c s₁ (Stand.of_body Bd) Bd.exec hZ Bd.bytes hml0 Bd.returns Bd.notSynchronized (findClass_of_methodNamed Bd.named) (name_of_methodNamed Bd.named Bd.method).1 (by rw [← hh, Bd.state]; rfl) ((State.WarmedH.refl s).since 0) hh hJ
def own_End (e : Env) (below : List Frame) (m : MethodId) (T : State) (v : Option Value) (P : Outcome → State → Prop) : Prop := ∃ fs, (∀ (f : JFrame) (acts : List Action), f.method = m → f.locked = none → f.entered = [] → (doReturn e (T.setTop f) acts v).1 = T.setFrames fs) ∧ (T.setFrames fs).status = .running ∧ Ended (T.setFrames fs) below (.returned v) ∧ P (.returned v) (T.setFrames fs)
theorem own_end {Qv : Option Value → Heap → List Loc → Prop} {kc ks : Nat} (X : Stand p l e R s m args below meth c T locs cells slots) {v : Option Value} (hv : meth.sig.returnType = none → v = none) (hlocks : meth.locks = false) (hc : cells ≤ kc) (hs : slots ≤ ks) (eT : T.heap = h) (q : Qv v h locs) : own_End e below m T v (own_Post Qv kc ks s) := by
  obtain ⟨fs, hr, hrun, hended, hW, hsame⟩ := X.leave hv hlocks
  exact ⟨fs, hr, hrun, hended, _, _, rfl, (by show Qv v T.heap locs; rw [eT]; exact q), ⟨_, rfl⟩, hW, hsame.mono hc hs⟩
theorem own_endW {Qv : Option Value → Heap → Vm → List Loc → Prop} {kc ks : Nat} {vm1 : Vm} (X : Stand p l e R (s.setVm vm1) m args below meth c T locs cells slots) {n : Nat} (hS : s.Since vm1 n) {v : Option Value} (hv : meth.sig.returnType = none → v = none) (hlocks : meth.locks = false) (hc : cells ≤ kc) (hs : slots ≤ ks) (eT : T.heap = h) (hk : n ≤ h.size) (q : ∀ vm', (s.setVm vm1).WarmedH vm' → Qv v h vm' locs) : own_End e below m T v (own_PostW Qv kc ks s) := by
  obtain ⟨fs, hr, hrun, hended, hE⟩ := X.leaveW hS (by rw [eT]; exact hk) hv hlocks
  exact ⟨fs, hr, hrun, hended, _, _, rfl, (by show Qv v T.heap T.vm locs; rw [eT]; exact q _ X.warmed), hE.1, hE.2.1, hE.2.2.1, hE.2.2.2.mono hc hs⟩
theorem own_fin {P : Outcome → State → Prop} {v : Option Value} {g : JFrame} (E : own_End e below m T v P) (st : ∀ fs, (∀ (f : JFrame) (acts : List Action), f.method = m → f.locked = none → f.entered = [] → (doReturn e (T.setTop f) acts v).1 = T.setFrames fs) → Steps p.tables e below (T.setTop g) (T.setFrames fs)) : own_Go p e below P T g := by
  obtain ⟨fs, hr, hrun, hended, q⟩ := E
  exact ⟨_, _, st fs hr, hrun, hended, q⟩
theorem own_some {t : FieldType} {v : Option Value} (hret : meth.sig.returnType = some t) : meth.sig.returnType = none → v = none := fun h => by rw [hret] at h; cases h
theorem own_finV {P : Outcome → State → Prop} (X : Stand p l e R s m args below meth c T locs cells slots) (hx : p.tables.exec = Jvm.exec) (hret : meth.sig.returnType = none) {pc : Nat} {Ls : Array Slot} (hd : decode c.code pc = .ok (.return_, 1)) (E : own_End e below m T none P) : own_Go p e below P T (mkF m pc Ls []) :=
  own_fin E (fun fs hr => X.returnOut hx hret hd hr)
theorem own_finX {P : Outcome → State → Prop} (X : Stand p l e R s m args below meth c T locs cells slots) (hx : p.tables.exec = Jvm.exec) {t : FieldType} (hret : meth.sig.returnType = some t) {pc : Nat} {Ls : Array Slot} {w : Value} {i : Instr} {rest : List Value} (hn : narrow t w = w)
    (hi : (i = .ireturn ∧ (t = .int ∨ t = .boolean ∨ t = .byte ∨ t = .char ∨ t = .short) ∧ ∃ z, w = .int z) ∨ (i = .lreturn ∧ t = .long ∧ ∃ z, w = .long z) ∨ (i = .dreturn ∧ t = .double ∧ ∃ z, w = .double z) ∨ (i = .freturn ∧ t = .float ∧ ∃ z, w = .float z) ∨ (i = .areturn ∧ t.isReference = true ∧ w.isRef = true))
    (hd : decode c.code pc = .ok (i, 1)) (E : own_End e below m T (some w) P) : own_Go p e below P T (mkF m pc Ls (w :: rest)) :=
  own_fin E (fun fs hr => retOut X hx hret hn hi hd hr)
theorem own_finI {P : Outcome → State → Prop} (X : Stand p l e R s m args below meth c T locs cells slots) (hx : p.tables.exec = Jvm.exec) (hret : meth.sig.returnType = some .int) {pc : Nat} {Ls : Array Slot} {z : Int32} {rest : List Value} (hd : decode c.code pc = .ok (.ireturn, 1)) (E : own_End e below m T (some (.int z)) P) : own_Go p e below P T (mkF m pc Ls (.int z :: rest)) :=
  own_finX X hx hret rfl (Or.inl ⟨rfl, Or.inl rfl, _, rfl⟩) hd E
theorem own_finL {P : Outcome → State → Prop} (X : Stand p l e R s m args below meth c T locs cells slots) (hx : p.tables.exec = Jvm.exec) (hret : meth.sig.returnType = some .long) {pc : Nat} {Ls : Array Slot} {z : Int64} {rest : List Value} (hd : decode c.code pc = .ok (.lreturn, 1)) (E : own_End e below m T (some (.long z)) P) : own_Go p e below P T (mkF m pc Ls (.long z :: rest)) :=
  own_finX X hx hret rfl (Or.inr (Or.inl ⟨rfl, rfl, _, rfl⟩)) hd E
theorem own_finD {P : Outcome → State → Prop} (X : Stand p l e R s m args below meth c T locs cells slots) (hx : p.tables.exec = Jvm.exec) (hret : meth.sig.returnType = some .double) {pc : Nat} {Ls : Array Slot} {z : UInt64} {rest : List Value} (hd : decode c.code pc = .ok (.dreturn, 1)) (E : own_End e below m T (some (.double z)) P) : own_Go p e below P T (mkF m pc Ls (.double z :: rest)) :=
  own_finX X hx hret rfl (Or.inr (Or.inr (Or.inl ⟨rfl, rfl, _, rfl⟩))) hd E
theorem own_finA {P : Outcome → State → Prop} (X : Stand p l e R s m args below meth c T locs cells slots) (hx : p.tables.exec = Jvm.exec) {t : FieldType} (hret : meth.sig.returnType = some t) (ht : t.isReference = true) {pc : Nat} {Ls : Array Slot} {w : Value} {rest : List Value} (hw : w.isRef = true) (hd : decode c.code pc = .ok (.areturn, 1)) (E : own_End e below m T (some w) P) : own_Go p e below P T (mkF m pc Ls (w :: rest)) :=
  own_finX X hx hret (by rcases ref_cases hw with rfl | ⟨z, rfl⟩ <;> cases t <;> first | rfl | cases ht) (Or.inr (Or.inr (Or.inr (Or.inr ⟨rfl, ht, hw⟩)))) hd E
theorem own_finZ {P : Outcome → State → Prop} (X : Stand p l e R s m args below meth c T locs cells slots) (hx : p.tables.exec = Jvm.exec) {t : FieldType} (hret : meth.sig.returnType = some t) (ht : t = .boolean ∨ t = .byte ∨ t = .char ∨ t = .short) {pc : Nat} {Ls : Array Slot} {z z' : Int32} {rest : List Value} (hz : nar t z = z') (hd : decode c.code pc = .ok (.ireturn, 1)) (E : own_End e below m T (some (.int z')) P) : own_Go p e below P T (mkF m pc Ls (.int z :: rest)) :=
  own_fin E (fun fs hr => by subst hz; exact retN X hx hret ht hd hr)
theorem own_callS (X : Stand p l e R s m args below meth c T locs cells slots) (hx : p.tables.exec = Jvm.exec) (hZ : Z.Warmed39 s.vm) {own : String} {index : Nat} {y : MethodName} {bytes : ByteArray} {maxL : Nat} {ret : Option FieldType} {rm : Room} {W : Nat} {Q : Option Value → Heap → List Loc → Prop} {argsL rest : List Value} {as' : Array Value}
    (hown : s.vm.findClass own = some m.cls) (w1 : (Cond.methodLink own index y).before a0 Z = true) (w2 : (Cond.static y).before a0 Z = true) (w3 : (Cond.initialized y.cls).before a0 Z = true) (w4 : (Cond.code y bytes maxL ret).before a0 Z = true) (hy : y.cls ≠ "java/lang/invoke/MethodHandle" ∧ y.cls ≠ "java/lang/invoke/VarHandle")
    (hM : own_Met l Z y bytes maxL ret [] rm h as' Q rm.cells rm.slots) (hf : rm.frames + 1 ≤ R.frames) (hl : W + (maxL + 11) + rm.locals ≤ R.locals) {g : JFrame} (hg : g.method = m) (hsz : g.locals.size = c.maxLocals) (has : argsL.toArray = as') (hlen : ∀ sig, parseMethodDescriptor y.desc = some sig → argsL.length = sig.parameters.length) (hstk : g.stack = argsL.reverse ++ rest) (hW : 2 * g.monitorRoom + (rest.map fun v => v.category).sum ≤ W)
    (hd : decode c.code g.pc = .ok (.invokestatic index, 3)) (eT : T.heap = h) (hc : cells + rm.cells ≤ R.cells) (hs : slots + rm.slots ≤ R.slots) :
    ∃ v T' L, Stand p l e R s m args below meth c T' (locs ++ L) (cells + rm.cells) (slots + rm.slots) ∧ Q v T'.heap L ∧ ∀ target, Steps p.tables e below (T'.setTop { g with pc := g.pc + 3, stack := v.toList ++ rest }) target → Steps p.tables e below (T.setTop g) target := by
  obtain ⟨v, _, ⟨T', L', k', n'⟩, -, X', ⟨Lc, hQ, l', y', z'⟩, st⟩ := Jvm.LawKit.callS X hx (y := y) hown (mvT hZ w1) (mvT hZ w2) (mvT hZ w3) (mvT hZ w4) hy (backOf (W := W) hM hZ w4 w3 hf hl) (g := g) hg hsz (argsL := argsL) (rest := rest) hlen hstk hW hd (fun _ _ => ⟨has, eT, hc, hs⟩)
  dsimp only [Pt.U, Pt.locs, Pt.cells, Pt.slots] at X' l' y' z' st hQ
  subst l' y' z'
  exact ⟨v, T', Lc, X', hQ, st⟩
theorem own_callI (X : Stand p l e R s m args below meth c T locs cells slots) (hx : p.tables.exec = Jvm.exec) (hZ : Z.Warmed39 s.vm) {own : String} {index : Nat} {y : MethodName} {bytes : ByteArray} {maxL : Nat} {rm : Room} {W : Nat} {Q : Option Value → Heap → List Loc → Prop} {a : Addr} {argsL rest : List Value} {as' : Array Value} (hyn : y.name = "<init>")
    (hown : s.vm.findClass own = some m.cls) (w1 : (Cond.methodLink own index y).before a0 Z = true) (w2 : (Cond.instanceMethod y).before a0 Z = true) (w3 : (Cond.initialized y.cls).before a0 Z = true) (w4 : (Cond.code y bytes maxL none).before a0 Z = true) (hy : y.cls ≠ "java/lang/invoke/MethodHandle" ∧ y.cls ≠ "java/lang/invoke/VarHandle")
    (hM : own_Met l Z y bytes maxL none [] rm h as' Q rm.cells rm.slots) (hf : rm.frames + 1 ≤ R.frames) (hl : W + (maxL + 11) + rm.locals ≤ R.locals) {g : JFrame} (hg : g.method = m) (hsz : g.locals.size = c.maxLocals) (has : (Value.ref a :: argsL).toArray = as') (hlen : ∀ sig, parseMethodDescriptor y.desc = some sig → argsL.length = sig.parameters.length) (hstk : g.stack = argsL.reverse ++ .ref a :: rest) (hW : 2 * g.monitorRoom + (rest.map fun v => v.category).sum ≤ W)
    (hd : decode c.code g.pc = .ok (.invokespecial index, 3)) (eT : T.heap = h) (hc : cells + rm.cells ≤ R.cells) (hs : slots + rm.slots ≤ R.slots) :
    ∃ v T' L, Stand p l e R s m args below meth c T' (locs ++ L) (cells + rm.cells) (slots + rm.slots) ∧ Q v T'.heap L ∧ ∀ target, Steps p.tables e below (T'.setTop { g with pc := g.pc + 3, stack := v.toList ++ rest }) target → Steps p.tables e below (T.setTop g) target := by
  obtain ⟨v, _, ⟨T', L', k', n'⟩, -, X', ⟨Lc, hQ, l', y', z'⟩, st⟩ := X.specialBack hx (y := y) hyn hown (mvT hZ w1) (mvT hZ w2) (mvT hZ w4) hy (backOf (W := W) hM hZ w4 w3 hf hl) (g := g) hg hsz (Steps.refl _) (a := a) (argsL := argsL) (rest := rest) hlen hstk hW hd (fun _ _ => ⟨has, eT, hc, hs⟩)
  dsimp only [Pt.U, Pt.locs, Pt.cells, Pt.slots] at X' l' y' z' st hQ
  subst l' y' z'
  exact ⟨v, T', Lc, X', hQ, fun t k => st.trans k⟩
theorem own_callV (X : Stand p l e R s m args below meth c T locs cells slots) (hx : p.tables.exec = Jvm.exec) (hZ : Z.Warmed39 s.vm) {own C : String} {index : Nat} {y z : MethodName} {bytes : ByteArray} {maxL : Nat} {ret : Option FieldType} {rm : Room} {W : Nat} {Q : Option Value → Heap → List Loc → Prop} {a : Addr} {argsL rest : List Value} {as' : Array Value}
    (hown : s.vm.findClass own = some m.cls) (w1 : (Cond.methodLink own index y).before a0 Z = true) (w2 : (Cond.declares y).before a0 Z = true) (hnf : NotFace s y) (wsel : (Cond.selects C y z).before a0 Z = true) (wi : (Cond.instanceMethod z).before a0 Z = true) (w3 : (Cond.initialized z.cls).before a0 Z = true) (w4 : (Cond.code z bytes maxL ret).before a0 Z = true) (hy : y.cls ≠ "java/lang/invoke/MethodHandle" ∧ y.cls ≠ "java/lang/invoke/VarHandle")
    (hM : own_Met l Z z bytes maxL ret [] rm h as' Q rm.cells rm.slots) (hf : rm.frames + 1 ≤ R.frames) (hl : W + (maxL + 11) + rm.locals ≤ R.locals) (E : Exa Z h a C) {g : JFrame} (hg : g.method = m) (hsz : g.locals.size = c.maxLocals) (has : (Value.ref a :: argsL).toArray = as') (hlen : ∀ sig, parseMethodDescriptor y.desc = some sig → argsL.length = sig.parameters.length) (hstk : g.stack = argsL.reverse ++ .ref a :: rest) (hW : 2 * g.monitorRoom + (rest.map fun v => v.category).sum ≤ W)
    (hd : decode c.code g.pc = .ok (.invokevirtual index, 3)) (eT : T.heap = h) (hc : cells + rm.cells ≤ R.cells) (hs : slots + rm.slots ≤ R.slots) :
    ∃ v T' L, Stand p l e R s m args below meth c T' (locs ++ L) (cells + rm.cells) (slots + rm.slots) ∧ Q v T'.heap L ∧ ∀ target, Steps p.tables e below (T'.setTop { g with pc := g.pc + 3, stack := v.toList ++ rest }) target → Steps p.tables e below (T.setTop g) target := by
  obtain ⟨cq, kq, qa, qb, qc⟩ := isOf hZ eT E
  obtain ⟨v, _, ⟨T', L', k', n'⟩, -, X', ⟨Lc, hQ, l', y', z'⟩, st⟩ := X.virtualBack hx (y := y) (z := z) hown (mvT hZ w1) (mvT hZ w2) hnf (mvT hZ wsel) (mvT hZ wi) hy (backOf (W := W) hM hZ w4 w3 hf hl) qa qc (g := g) hg hsz (Steps.refl _) (argsL := argsL) (rest := rest) hlen hstk hW hd (fun _ _ => ⟨has, eT, hc, hs⟩)
  dsimp only [Pt.U, Pt.locs, Pt.cells, Pt.slots] at X' l' y' z' st hQ
  subst l' y' z'
  exact ⟨v, T', Lc, X', hQ, fun t k => st.trans k⟩
theorem own_callP (X : Stand p l e R s m args below meth c T locs cells slots) (hx : p.tables.exec = Jvm.exec) (hZ : Z.Warmed39 s.vm) {own C : String} {index : Nat} {y : MethodName} {bytes : ByteArray} {maxL : Nat} {ret : Option FieldType} {rm : Room} {W : Nat} {Q : Option Value → Heap → List Loc → Prop} {a : Addr} {argsL rest : List Value} {as' : Array Value}
    (hown : s.vm.findClass own = some m.cls) (w1 : (Cond.methodLink own index y).before a0 Z = true) (wi : (Cond.instanceMethod y).before a0 Z = true) {kk : Nat} (wn : (Cond.instantiable y.cls kk).before a0 Z = true) (wp : (Cond.privateMethod y).before a0 Z = true) (w3 : (Cond.initialized y.cls).before a0 Z = true) (w4 : (Cond.code y bytes maxL ret).before a0 Z = true) (hy : y.cls ≠ "java/lang/invoke/MethodHandle" ∧ y.cls ≠ "java/lang/invoke/VarHandle")
    (hM : own_Met l Z y bytes maxL ret [] rm h as' Q rm.cells rm.slots) (hf : rm.frames + 1 ≤ R.frames) (hl : W + (maxL + 11) + rm.locals ≤ R.locals) (E : Exa Z h a C) {g : JFrame} (hg : g.method = m) (hsz : g.locals.size = c.maxLocals) (has : (Value.ref a :: argsL).toArray = as') (hlen : ∀ sig, parseMethodDescriptor y.desc = some sig → argsL.length = sig.parameters.length) (hstk : g.stack = argsL.reverse ++ .ref a :: rest) (hW : 2 * g.monitorRoom + (rest.map fun v => v.category).sum ≤ W)
    (hd : decode c.code g.pc = .ok (.invokevirtual index, 3)) (eT : T.heap = h) (hc : cells + rm.cells ≤ R.cells) (hs : slots + rm.slots ≤ R.slots) :
    ∃ v T' L, Stand p l e R s m args below meth c T' (locs ++ L) (cells + rm.cells) (slots + rm.slots) ∧ Q v T'.heap L ∧ ∀ target, Steps p.tables e below (T'.setTop { g with pc := g.pc + 3, stack := v.toList ++ rest }) target → Steps p.tables e below (T.setTop g) target := by
  obtain ⟨cq, q1, q2⟩ := E.cell
  obtain ⟨ci, ki, hi1, hi2, -, hi4, -⟩ := Cond.instantiable_spec (mvT (args := args) hZ wn)
  have hsel : (Cond.selects y.cls y y).before args s = true := selects_self_of_private hi1 hi2 (by simp only [Bool.or_eq_false_iff] at hi4; exact hi4.1) (Cond.privateMethod_at (mvP hZ wp (args := #[]))) (mvT hZ wi) hy
  obtain ⟨v, _, ⟨T', L', k', n'⟩, -, X', ⟨Lc, hQ, l', y', z'⟩, st⟩ := X.privateBack hx (y := y) hown (mvT hZ w1) (mvT hZ wi) hsel (Cond.privateMethod_at (mvP hZ wp (args := #[]))) (mvT hZ w4) hy (backOf (W := W) hM hZ w4 w3 hf hl) (g := g) hg hsz (Steps.refl _) (a := a) (by rw [eT]; exact q1) q2 (argsL := argsL) (rest := rest) hlen hstk hW hd (fun _ _ => ⟨has, eT, hc, hs⟩)
  dsimp only [Pt.U, Pt.locs, Pt.cells, Pt.slots] at X' l' y' z' st hQ
  subst l' y' z'
  exact ⟨v, T', Lc, X', hQ, fun t k => st.trans k⟩
end Own

theorem own_h {a0 : Array Value} {Z : State} (hw : ∀ d ∈ tables_1, d.before a0 Z = true) (i : Nat) {d : Jvm.Cond} (h : tables_1[i]? = some d) : d.before a0 Z = true := hw d (List.mem_of_getElem? h)
theorem own_at {T : State} {h : Heap} {a : Addr} {c : Cell} (eT : T.heap = h) (q : h[a]? = some c) : T.heap[a]? = some c := by rw [eT]; exact q
def own_b (b : Bool) : Int32 := cond b 1 0
theorem own_b0 {b : Bool} (h : b = false) : own_b b = 0 := by subst h; rfl
theorem own_b1 {b : Bool} (h : ¬ b = false) : ¬ own_b b = 0 := by cases b; exact absurd rfl h; decide
theorem own_narb (b : Bool) : nar .boolean (own_b b) = own_b b := by cases b <;> rfl
theorem own_lclt {a b : Int64} (h : a < b) : lcmpW a b < 0 := by rw [lcW]; exact (lc_lt a b).mpr h
theorem own_lcltN {a b : Int64} (h : ¬ a < b) : ¬ lcmpW a b < 0 := fun q => by rw [lcW] at q; exact h ((lc_lt a b).mp q)
theorem own_lcgt {a b : Int64} (h : b < a) : 0 < lcmpW a b := by rw [lcW]; exact (lc_gt a b).mpr h
theorem own_lcgtN {a b : Int64} (h : ¬ b < a) : ¬ 0 < lcmpW a b := fun q => by rw [lcW] at q; exact h ((lc_gt a b).mp q)
theorem own_lceq {a b : Int64} (h : a = b) : lcmpW a b = 0 := by rw [lcW]; exact (lc_eq a b).mpr h
theorem own_lceqN {a b : Int64} (h : ¬ a = b) : ¬ lcmpW a b = 0 := fun q => by rw [lcW] at q; exact h ((lc_eq a b).mp q)
theorem own_insKeep {Z : State} {h h' : Heap} {a : Addr} {C : String} {bo : Bool} {ws : List Addr} (F : Ins Z h a C bo) (K : Keep h h' ws) : Ins Z h' a C bo := by
  obtain ⟨cell, cT, h1, h2, h3⟩ := F
  obtain ⟨c', q1, q2, q3, -⟩ := K.2.2 _ _ h1
  exact ⟨c', cT, q1, h2, by rw [q2, q3]; exact h3⟩
theorem own_staKeep {Z : State} {h h' : Heap} {C n d : String} {v : Value} (F : Sta Z h C n d v) (K : Keep h h' []) : Sta Z h' C n d v := by
  obtain ⟨cf, i, k, f, st, cell, h1, h2, h3, h4, h5, r⟩ := F
  exact ⟨cf, i, k, f, st, cell, h1, h2, h3, h4, K.2.1 _ _ h5 nin0, r⟩
theorem own_narR {t : FieldType} {w : Value} (hw : w.isRef = true) : narrow t w = w := by rcases ref_cases hw with rfl | ⟨z, rfl⟩ <;> cases t <;> rfl
theorem own_fitR {n : String} {w : Value} (hw : w.isRef = true) : fits (.object n) w = true := by rcases ref_cases hw with rfl | ⟨z, rfl⟩ <;> rfl
theorem own_len {p : Program} {l : Launch} {e : Env} {R : Room} {s : State} {m : MethodId} {args : Array Value} {below : List Frame} {meth : Method} {c : Code} {T : State} {locs : List Loc} {cells slots : Nat} {Z : State} {h : Heap} (X : Stand p l e R s m args below meth c T locs cells slots) (hx : p.tables.exec = Jvm.exec) (hZ : Z.Warmed39 s.vm) (eT : T.heap = h) {a : Addr} {cl : Cell} {ty : FieldType} {z : Int32} (A : Arr Z h a cl ty) (S : cl.slots.size = z.toNatClampNeg) (hz : ¬ z < 0)
    {g : JFrame} (hg : g.method = m) {rest : List Value} (hs : g.stack = .ref a :: rest) (hd : decode c.code g.pc = .ok (.arraylength, 1)) {target : State} (k : Steps p.tables e below (T.setTop { g with pc := g.pc + 1, stack := .int z :: rest }) target) : Steps p.tables e below (T.setTop g) target := by
  refine X.arraylength hx (by rw [eT]; exact A.1) (State.isArrayOf_alike hZ.alike A.2.1) (g := g) hg hs hd _ ?_
  rw [len_of S hz]
  exact k

def own_Mg (K : Int) (a : Int64) : Prop := -K ≤ a.toInt ∧ a.toInt ≤ K
theorem own_mgB {K : Int} {a : Int64} (h : own_Mg K a) (hK : K < 9007199254740992) : B53 a := ⟨by have := h.1; omega, by have := h.2; omega⟩
theorem own_mgI (x : Int32) : own_Mg 2147483648 x.toInt64 := by
  have h1 := x.le_toInt; have h2 := x.toInt_lt
  constructor <;> rw [Int32.toInt_toInt64] <;> omega
theorem own_mgIK {K : Int} {x : Int32} (h1 : -K ≤ x.toInt) (h2 : x.toInt ≤ K) : own_Mg K x.toInt64 := by constructor <;> rw [Int32.toInt_toInt64] <;> assumption
theorem own_mgLit (a : Int64) {K v : Int} (h : a.toInt = v) (h2 : v.natAbs = K) : own_Mg K a := by constructor <;> omega
theorem own_mg0 : own_Mg 0 0 := own_mgLit 0 rfl rfl
theorem own_mgAdd {K M : Int} {a b : Int64} (ha : own_Mg K a) (hb : own_Mg M b) (h : K + M < 9223372036854775807) : own_Mg (K + M) (a + b) := by
  have e : (a + b).toInt = a.toInt + b.toInt := by
    obtain ⟨a1, a2⟩ := ha; obtain ⟨b1, b2⟩ := hb
    rw [Int64.toInt_add]; exact Int.bmod_eq_of_le (by omega) (by omega)
  obtain ⟨a1, a2⟩ := ha; obtain ⟨b1, b2⟩ := hb
  constructor <;> rw [e] <;> omega
theorem own_dc0 : FP.dconst0 = FP.l2d (0 : Int64) := by decide +kernel
theorem own_dc1 : FP.dconst1 = FP.l2d (1 : Int64) := by decide +kernel
abbrev own_y0 : MethodName := ⟨"com/example/allotrope/allotrope/procure/ProcureScores", "<init>", "([D)V"⟩
theorem own_pn0 : plainName "com/example/allotrope/allotrope/procure/ProcureScores" = true := by first | (simp [plainName, overriddenIn]; done) | decide +kernel
theorem own_dini_0 : decode prog_58_method_1_code 0 = .ok (.aload_n 0, 1) := by decide +kernel
theorem own_dini_1 : decode prog_58_method_1_code 1 = .ok (.invokespecial 1, 3) := by decide +kernel
theorem own_dini_4 : decode prog_58_method_1_code 4 = .ok (.aload_n 0, 1) := by decide +kernel
theorem own_dini_5 : decode prog_58_method_1_code 5 = .ok (.aload_n 1, 1) := by decide +kernel
theorem own_dini_6 : decode prog_58_method_1_code 6 = .ok (.putfield 7, 3) := by decide +kernel
theorem own_dini_9 : decode prog_58_method_1_code 9 = .ok (.return_, 1) := by decide +kernel
theorem own_efini (m : MethodId) (x0 : Addr) (x1 : Addr) : entryFrame m #[(.ref x0), (.ref x1)] 2 = mkF m 0 #[rv x0, rv x1] [] := by first | (simp [entryFrame, mkF, argsToLocals, Value.category]; done) | rfl
def own_Qini (Z : State) (a1 : Addr) (a2 : Addr) (h0 : Heap) (n0 : Nat) : Option Value → Heap → List Loc → Prop := fun v h L => v = none ∧ Fr n0 L ∧ Keep h0 h [a1] ∧ Exa Z h a1 "com/example/allotrope/allotrope/procure/ProcureScores" ∧ Fld Z h a1 "com/example/allotrope/allotrope/procure/ProcureScores" "projectScores" "[D" (.ref a2)
def own_Rini : Room := { frames := 1, cells := 0, slots := 0, locals := 12 }
set_option maxRecDepth 65536 in
set_option maxHeartbeats 40000000 in
theorem own_rmini (l : Launch) (Z : State) (a0 : Array Value) (hw : ∀ d ∈ tables_1, d.before a0 Z = true) (ws : List Jvm.Cond) (a1 : Addr) (a2 : Addr) (h0 : Heap) (n0 : Nat) (Z0 : n0 ≤ h0.size) (g_a1 : n0 ≤ a1) (E1 : Exa Z h0 a1 "com/example/allotrope/allotrope/procure/ProcureScores") (F1 : Fld Z h0 a1 "com/example/allotrope/allotrope/procure/ProcureScores" "projectScores" "[D" .null) :
    own_Met l Z own_y0 prog_58_method_1_code 2 none ws own_Rini h0 #[(.ref a1), (.ref a2)] (own_Qini Z a1 a2 h0 n0) own_Rini.cells own_Rini.slots := by
  refine own_start (plainFor_of_name own_pn0) ?_
  intro p e s m below meth c s₁ X0 hx hZ hby hml hret hlk hown hnm e0
  have hown : s.vm.findClass "com/example/allotrope/allotrope/procure/ProcureScores" = some m.cls := hown
  have hml : c.maxLocals = 2 := hml
  have N0 := Fr.nil n0
  refine own_cast (own_efini m a1 a2) ?_
  refine own_s s₁ (mkF m 1 #[rv a1, rv a2] [(.ref a1)]) (fun _ k => XS.aloadN X0.here hx rfl (hb hby own_dini_0) rfl rfl k) ?_
  obtain ⟨T1, X1, e1, st1⟩ := initO X0 hx hZ hown (own_h hw 7 rfl) (own_h hw 8 rfl) (own_h hw 9 rfl) e0 (g := (mkF m 1 #[rv a1, rv a2] [(.ref a1)])) rfl (by rw [hml]; rfl) rfl (hb hby own_dini_1) (by decide) (W := 0) (by show 2 * 0 + _ ≤ _; exact Nat.le_of_eq rfl) (by decide)
  refine own_s T1 (mkF m 4 #[rv a1, rv a2] []) st1 ?_
  refine own_s T1 (mkF m 6 #[rv a1, rv a2] [(.ref a2), (.ref a1)]) (fun _ k => XS.aloadN X1.here hx rfl (hb hby own_dini_4) rfl rfl (XS.aloadN X1.here hx rfl (hb hby own_dini_5) rfl rfl k)) ?_
  obtain ⟨T2, h2, X2, e2, W2, st2⟩ := putF X1 hx hZ hown (host := "") (Or.inl (own_h hw 10 rfl)) Via.refl e1 F1 E1 (Or.inr ⟨(own_h hw 11 rfl), rfl, hnm⟩) (own_h hw 2 rfl) (ty := (.array .double)) (by decide) rfl rfl (g := (mkF m 6 #[rv a1, rv a2] [(.ref a2), (.ref a1)])) rfl rfl (hb hby own_dini_6)
  have Fw2 := Fld.same W2 F1
  have f3 := Exa.wr W2 E1
  have K2 : Keep h0 h2 [a1] := (Keep.refl h0 [a1]).wr W2 (Or.inl (List.mem_of_getElem? (i := 0) rfl))
  have Z2 := Nat.le_trans Z0 (Nat.le_of_eq W2.size.symm)
  have N2 := Fr.snoc X2 N0 g_a1
  refine own_s T2 (mkF m 9 #[rv a1, rv a2] []) st2 ?_
  exact own_finV X2 hx hret (hb hby own_dini_9) (own_end (Qv := (own_Qini Z a1 a2 h0 n0)) X2 (fun _ => rfl) hlk (by decide) (by decide) e2 ⟨rfl, N2, K2, f3, Fw2⟩)
abbrev own_y1 : MethodName := ⟨"com/example/allotrope/allotrope/procure/ProcureScores", "score", "()D"⟩
theorem own_dsc0_0 : decode prog_58_method_2_code 0 = .ok (.dconst 0, 1) := by decide +kernel
theorem own_dsc0_1 : decode prog_58_method_2_code 1 = .ok (.dstore_n 1, 1) := by decide +kernel
theorem own_dsc0_2 : decode prog_58_method_2_code 2 = .ok (.aload_n 0, 1) := by decide +kernel
theorem own_dsc0_3 : decode prog_58_method_2_code 3 = .ok (.getfield 7, 3) := by decide +kernel
theorem own_dsc0_6 : decode prog_58_method_2_code 6 = .ok (.astore_n 3, 1) := by decide +kernel
theorem own_dsc0_7 : decode prog_58_method_2_code 7 = .ok (.aload_n 3, 1) := by decide +kernel
theorem own_dsc0_8 : decode prog_58_method_2_code 8 = .ok (.arraylength, 1) := by decide +kernel
theorem own_dsc0_9 : decode prog_58_method_2_code 9 = .ok (.istore 4, 2) := by decide +kernel
theorem own_dsc0_11 : decode prog_58_method_2_code 11 = .ok (.iconst 0, 1) := by decide +kernel
theorem own_dsc0_12 : decode prog_58_method_2_code 12 = .ok (.istore 5, 2) := by decide +kernel
theorem own_dsc0_14 : decode prog_58_method_2_code 14 = .ok (.iload 5, 2) := by decide +kernel
theorem own_dsc0_16 : decode prog_58_method_2_code 16 = .ok (.iload 4, 2) := by decide +kernel
theorem own_dsc0_18 : decode prog_58_method_2_code 18 = .ok (.if_icmp .ge 20, 3) := by decide +kernel
theorem own_dsc0_38 : decode prog_58_method_2_code 38 = .ok (.dload_n 1, 1) := by decide +kernel
theorem own_dsc0_39 : decode prog_58_method_2_code 39 = .ok (.dreturn, 1) := by decide +kernel
theorem own_efsc0 (m : MethodId) (x0 : Addr) : entryFrame m #[(.ref x0)] 8 = mkF m 0 #[rv x0, u_, u_, u_, u_, u_, u_, u_] [] := by first | (simp [entryFrame, mkF, argsToLocals, Value.category]; done) | rfl
def own_Qsc0 (Z : State) (a1 : Addr) (ar : Addr) (k1 : ClassId) (h0 : Heap) (n0 : Nat) : Option Value → Heap → List Loc → Prop := fun v h L => v = some (.double (FP.l2d (0 : Int64))) ∧ Fr n0 L ∧ h = h0
def own_Rsc0 : Room := { frames := 0, cells := 0, slots := 0, locals := 0 }
set_option maxRecDepth 65536 in
set_option maxHeartbeats 40000000 in
theorem own_rmsc0 (l : Launch) (Z : State) (a0 : Array Value) (hw : ∀ d ∈ tables_1, d.before a0 Z = true) (ws : List Jvm.Cond) (a1 : Addr) (ar : Addr) (k1 : ClassId) (h0 : Heap) (n0 : Nat) (Z0 : n0 ≤ h0.size) (F1 : Fld Z h0 a1 "com/example/allotrope/allotrope/procure/ProcureScores" "projectScores" "[D" (.ref ar)) (V1 : Arv Z h0 ar k1 .double (0 : Int32) [] (.double (FP.l2d 0))) :
    own_Met l Z own_y1 prog_58_method_2_code 8 (some .double) ws own_Rsc0 h0 #[(.ref a1)] (own_Qsc0 Z a1 ar k1 h0 n0) own_Rsc0.cells own_Rsc0.slots := by
  refine own_start (plainFor_of_name own_pn0) ?_
  intro p e s m below meth c s₁ X0 hx hZ hby hml hret hlk hown hnm e0
  have hown : s.vm.findClass "com/example/allotrope/allotrope/procure/ProcureScores" = some m.cls := hown
  have hml : c.maxLocals = 8 := hml
  have N0 := Fr.nil n0
  refine own_cast (own_efsc0 m a1) ?_
  have mg1 := own_mgLit (0 : Int64) (K := 0) rfl rfl
  refine own_s s₁ (mkF m 3 #[rv a1, .val (.double (FP.l2d (0 : Int64))), v_, u_, u_, u_, u_, u_] [(.ref a1)]) (fun _ k => XS.dconst0 X0.here hx rfl (hb hby own_dsc0_0) own_dc0 (XS.dstoreN X0.here hx rfl (hb hby own_dsc0_1) rfl (l' := #[rv a1, .val (.double (FP.l2d (0 : Int64))), v_, u_, u_, u_, u_, u_]) rfl (XS.aloadN X0.here hx rfl (hb hby own_dsc0_2) rfl rfl k))) ?_
  obtain ⟨T2, X2, e2, st2⟩ := getF X0 hx hZ hown (host := "") (Or.inl (own_h hw 10 rfl)) Via.refl e0 F1 (g := (mkF m 3 #[rv a1, .val (.double (FP.l2d (0 : Int64))), v_, u_, u_, u_, u_, u_] [(.ref a1)])) rfl rfl (hb hby own_dsc0_3)
  refine own_s T2 (mkF m 6 #[rv a1, .val (.double (FP.l2d (0 : Int64))), v_, u_, u_, u_, u_, u_] [(.ref ar)]) st2 ?_
  refine own_s T2 (mkF m 8 #[rv a1, .val (.double (FP.l2d (0 : Int64))), v_, rv ar, u_, u_, u_, u_] [(.ref ar)]) (fun _ k => XS.astoreN X2.here hx rfl (hb hby own_dsc0_6) rfl rfl (l' := #[rv a1, .val (.double (FP.l2d (0 : Int64))), v_, rv ar, u_, u_, u_, u_]) rfl (XS.aloadN X2.here hx rfl (hb hby own_dsc0_7) rfl rfl k)) ?_
  obtain ⟨cl3, Ar3, q3, S3, Nn3, H3, G3⟩ := id V1
  refine own_s T2 (mkF m 16 #[rv a1, .val (.double (FP.l2d (0 : Int64))), v_, rv ar, iv 0, iv 0, u_, u_] [(.int 0)]) (fun _ k => own_len X2 hx hZ e2 Ar3 S3 Nn3 (g := (mkF m 8 #[rv a1, .val (.double (FP.l2d (0 : Int64))), v_, rv ar, u_, u_, u_, u_] [(.ref ar)])) rfl rfl (hb hby own_dsc0_8) (XS.istore X2.here hx rfl (hb hby own_dsc0_9) rfl (l' := #[rv a1, .val (.double (FP.l2d (0 : Int64))), v_, rv ar, iv 0, u_, u_, u_]) rfl (XS.iconst X2.here hx rfl (hb hby own_dsc0_11) (XS.istore X2.here hx rfl (hb hby own_dsc0_12) rfl (l' := #[rv a1, .val (.double (FP.l2d (0 : Int64))), v_, rv ar, iv 0, iv 0, u_, u_]) rfl (XS.iload X2.here hx rfl (hb hby own_dsc0_14) rfl  k))))) ?_
  refine own_s T2 (mkF m 39 #[rv a1, .val (.double (FP.l2d (0 : Int64))), v_, rv ar, iv 0, iv 0, u_, u_] [(.double (FP.l2d (0 : Int64)))]) (fun _ k => XS.iload X2.here hx rfl (hb hby own_dsc0_16) rfl  (XS.icmpYes X2.here hx rfl (pc0 := 18) (pc' := 38) rfl (hb hby own_dsc0_18) rfl (flt (by decide : ¬ ((0 : Int32) < (0 : Int32)))).2.1 (by decide) (by decide) (XS.dloadN X2.here hx rfl (hb hby own_dsc0_38) rfl  k))) ?_
  exact own_finD X2 hx hret (hb hby own_dsc0_39) (own_end (Qv := (own_Qsc0 Z a1 ar k1 h0 n0)) X2 (own_some hret) hlk (by decide) (by decide) e2 ⟨rfl, N0, rfl⟩)
theorem own_dsc1_0 : decode prog_58_method_2_code 0 = .ok (.dconst 0, 1) := by decide +kernel
theorem own_dsc1_1 : decode prog_58_method_2_code 1 = .ok (.dstore_n 1, 1) := by decide +kernel
theorem own_dsc1_2 : decode prog_58_method_2_code 2 = .ok (.aload_n 0, 1) := by decide +kernel
theorem own_dsc1_3 : decode prog_58_method_2_code 3 = .ok (.getfield 7, 3) := by decide +kernel
theorem own_dsc1_6 : decode prog_58_method_2_code 6 = .ok (.astore_n 3, 1) := by decide +kernel
theorem own_dsc1_7 : decode prog_58_method_2_code 7 = .ok (.aload_n 3, 1) := by decide +kernel
theorem own_dsc1_8 : decode prog_58_method_2_code 8 = .ok (.arraylength, 1) := by decide +kernel
theorem own_dsc1_9 : decode prog_58_method_2_code 9 = .ok (.istore 4, 2) := by decide +kernel
theorem own_dsc1_11 : decode prog_58_method_2_code 11 = .ok (.iconst 0, 1) := by decide +kernel
theorem own_dsc1_12 : decode prog_58_method_2_code 12 = .ok (.istore 5, 2) := by decide +kernel
theorem own_dsc1_14 : decode prog_58_method_2_code 14 = .ok (.iload 5, 2) := by decide +kernel
theorem own_dsc1_16 : decode prog_58_method_2_code 16 = .ok (.iload 4, 2) := by decide +kernel
theorem own_dsc1_18 : decode prog_58_method_2_code 18 = .ok (.if_icmp .ge 20, 3) := by decide +kernel
theorem own_dsc1_21 : decode prog_58_method_2_code 21 = .ok (.aload_n 3, 1) := by decide +kernel
theorem own_dsc1_22 : decode prog_58_method_2_code 22 = .ok (.iload 5, 2) := by decide +kernel
theorem own_dsc1_24 : decode prog_58_method_2_code 24 = .ok (.daload, 1) := by decide +kernel
theorem own_dsc1_25 : decode prog_58_method_2_code 25 = .ok (.dstore 6, 2) := by decide +kernel
theorem own_dsc1_27 : decode prog_58_method_2_code 27 = .ok (.dload_n 1, 1) := by decide +kernel
theorem own_dsc1_28 : decode prog_58_method_2_code 28 = .ok (.dload 6, 2) := by decide +kernel
theorem own_dsc1_30 : decode prog_58_method_2_code 30 = .ok (.dadd, 1) := by decide +kernel
theorem own_dsc1_31 : decode prog_58_method_2_code 31 = .ok (.dstore_n 1, 1) := by decide +kernel
theorem own_dsc1_32 : decode prog_58_method_2_code 32 = .ok (.iinc 5 1, 3) := by decide +kernel
theorem own_dsc1_35 : decode prog_58_method_2_code 35 = .ok (.goto (-21), 3) := by decide +kernel
theorem own_dsc1_38 : decode prog_58_method_2_code 38 = .ok (.dload_n 1, 1) := by decide +kernel
theorem own_dsc1_39 : decode prog_58_method_2_code 39 = .ok (.dreturn, 1) := by decide +kernel
theorem own_efsc1 (m : MethodId) (x0 : Addr) : entryFrame m #[(.ref x0)] 8 = mkF m 0 #[rv x0, u_, u_, u_, u_, u_, u_, u_] [] := by first | (simp [entryFrame, mkF, argsToLocals, Value.category]; done) | rfl
def own_Qsc1 (Z : State) (a1 : Addr) (ar : Addr) (k1 : ClassId) (z0 : Int64) (h0 : Heap) (n0 : Nat) : Option Value → Heap → List Loc → Prop := fun v h L => v = some (.double (FP.l2d ((0 : Int64) + z0))) ∧ Fr n0 L ∧ h = h0
def own_Rsc1 : Room := { frames := 0, cells := 0, slots := 0, locals := 0 }
set_option maxRecDepth 65536 in
set_option maxHeartbeats 40000000 in
theorem own_rmsc1 (l : Launch) (Z : State) (a0 : Array Value) (hw : ∀ d ∈ tables_1, d.before a0 Z = true) (ws : List Jvm.Cond) (a1 : Addr) (ar : Addr) (k1 : ClassId) (z0 : Int64) (h0 : Heap) (n0 : Nat) (Z0 : n0 ≤ h0.size) (F1 : Fld Z h0 a1 "com/example/allotrope/allotrope/procure/ProcureScores" "projectScores" "[D" (.ref ar)) (V1 : Arv Z h0 ar k1 .double (1 : Int32) [(.double (FP.l2d z0))] (.double (FP.l2d 0))) (m_z0 : own_Mg 2147483648 z0) :
    own_Met l Z own_y1 prog_58_method_2_code 8 (some .double) ws own_Rsc1 h0 #[(.ref a1)] (own_Qsc1 Z a1 ar k1 z0 h0 n0) own_Rsc1.cells own_Rsc1.slots := by
  refine own_start (plainFor_of_name own_pn0) ?_
  intro p e s m below meth c s₁ X0 hx hZ hby hml hret hlk hown hnm e0
  have hown : s.vm.findClass "com/example/allotrope/allotrope/procure/ProcureScores" = some m.cls := hown
  have hml : c.maxLocals = 8 := hml
  have N0 := Fr.nil n0
  refine own_cast (own_efsc1 m a1) ?_
  have mg1 := own_mgLit (0 : Int64) (K := 0) rfl rfl
  refine own_s s₁ (mkF m 3 #[rv a1, .val (.double (FP.l2d (0 : Int64))), v_, u_, u_, u_, u_, u_] [(.ref a1)]) (fun _ k => XS.dconst0 X0.here hx rfl (hb hby own_dsc1_0) own_dc0 (XS.dstoreN X0.here hx rfl (hb hby own_dsc1_1) rfl (l' := #[rv a1, .val (.double (FP.l2d (0 : Int64))), v_, u_, u_, u_, u_, u_]) rfl (XS.aloadN X0.here hx rfl (hb hby own_dsc1_2) rfl rfl k))) ?_
  obtain ⟨T2, X2, e2, st2⟩ := getF X0 hx hZ hown (host := "") (Or.inl (own_h hw 10 rfl)) Via.refl e0 F1 (g := (mkF m 3 #[rv a1, .val (.double (FP.l2d (0 : Int64))), v_, u_, u_, u_, u_, u_] [(.ref a1)])) rfl rfl (hb hby own_dsc1_3)
  refine own_s T2 (mkF m 6 #[rv a1, .val (.double (FP.l2d (0 : Int64))), v_, u_, u_, u_, u_, u_] [(.ref ar)]) st2 ?_
  refine own_s T2 (mkF m 8 #[rv a1, .val (.double (FP.l2d (0 : Int64))), v_, rv ar, u_, u_, u_, u_] [(.ref ar)]) (fun _ k => XS.astoreN X2.here hx rfl (hb hby own_dsc1_6) rfl rfl (l' := #[rv a1, .val (.double (FP.l2d (0 : Int64))), v_, rv ar, u_, u_, u_, u_]) rfl (XS.aloadN X2.here hx rfl (hb hby own_dsc1_7) rfl rfl k)) ?_
  obtain ⟨cl3, Ar3, q3, S3, Nn3, H3, G3⟩ := id V1
  refine own_s T2 (mkF m 16 #[rv a1, .val (.double (FP.l2d (0 : Int64))), v_, rv ar, iv 1, iv 0, u_, u_] [(.int 0)]) (fun _ k => own_len X2 hx hZ e2 Ar3 S3 Nn3 (g := (mkF m 8 #[rv a1, .val (.double (FP.l2d (0 : Int64))), v_, rv ar, u_, u_, u_, u_] [(.ref ar)])) rfl rfl (hb hby own_dsc1_8) (XS.istore X2.here hx rfl (hb hby own_dsc1_9) rfl (l' := #[rv a1, .val (.double (FP.l2d (0 : Int64))), v_, rv ar, iv 1, u_, u_, u_]) rfl (XS.iconst X2.here hx rfl (hb hby own_dsc1_11) (XS.istore X2.here hx rfl (hb hby own_dsc1_12) rfl (l' := #[rv a1, .val (.double (FP.l2d (0 : Int64))), v_, rv ar, iv 1, iv 0, u_, u_]) rfl (XS.iload X2.here hx rfl (hb hby own_dsc1_14) rfl  k))))) ?_
  refine own_s T2 (mkF m 24 #[rv a1, .val (.double (FP.l2d (0 : Int64))), v_, rv ar, iv 1, iv 0, u_, u_] [(.int 0), (.ref ar)]) (fun _ k => XS.iload X2.here hx rfl (hb hby own_dsc1_16) rfl  (XS.icmpNo X2.here hx rfl (hb hby own_dsc1_18) rfl (tlt (by decide : ((0 : Int32) < (1 : Int32)))).2.1 (XS.aloadN X2.here hx rfl (hb hby own_dsc1_21) rfl rfl (XS.iload X2.here hx rfl (hb hby own_dsc1_22) rfl  k)))) ?_
  obtain ⟨cl4, Ar4, q4, S4, Nn4, H4, G4⟩ := id V1
  have hin4 : ¬ ((0 : Int32) < 0 ∨ cl4.slots.size ≤ ((0 : Int32)).toNatClampNeg) := (inb_of S4 ⟨by decide, by decide⟩)
  refine own_s T2 (mkF m 30 #[rv a1, .val (.double (FP.l2d (0 : Int64))), v_, rv ar, iv 1, iv 0, .val (.double (FP.l2d z0)), v_] [(.double (FP.l2d z0)), (.double (FP.l2d (0 : Int64)))]) (fun _ k => X2.daload hx (j := (0 : Int32)) (v := (.double (FP.l2d z0))) (own_at e2 Ar4.1) (State.isArrayOf_alike hZ.alike Ar4.2.1) Ar4.2.2 hin4 (Has.at H4 hin4 rfl) (g := (mkF m 24 #[rv a1, .val (.double (FP.l2d (0 : Int64))), v_, rv ar, iv 1, iv 0, u_, u_] [(.int 0), (.ref ar)])) rfl rfl (hb hby own_dsc1_24) _ (XS.dstore X2.here hx rfl (hb hby own_dsc1_25) rfl (l' := #[rv a1, .val (.double (FP.l2d (0 : Int64))), v_, rv ar, iv 1, iv 0, .val (.double (FP.l2d z0)), v_]) rfl (XS.dloadN X2.here hx rfl (hb hby own_dsc1_27) rfl  (XS.dload X2.here hx rfl (hb hby own_dsc1_28) rfl  k)))) ?_
  have dw5 := dadd_w (own_mgB mg1 (by decide)) (own_mgB m_z0 (by decide))
  have mg5 := own_mgAdd mg1 m_z0 (by decide)
  refine own_s T2 (mkF m 16 #[rv a1, .val (.double (FP.l2d ((0 : Int64) + z0))), v_, rv ar, iv 1, iv 1, .val (.double (FP.l2d z0)), v_] [(.int 1)]) (fun _ k => XS.daddS X2.here hx rfl (hb hby own_dsc1_30) rfl (nn_w dw5) dw5 (XS.dstoreN X2.here hx rfl (hb hby own_dsc1_31) rfl (l' := #[rv a1, .val (.double (FP.l2d ((0 : Int64) + z0))), v_, rv ar, iv 1, iv 0, .val (.double (FP.l2d z0)), v_]) rfl (XS.iinc X2.here hx rfl (hb hby own_dsc1_32) rfl (l' := #[rv a1, .val (.double (FP.l2d ((0 : Int64) + z0))), v_, rv ar, iv 1, iv 1, .val (.double (FP.l2d z0)), v_]) rfl (XS.goto X2.here hx rfl (pc0 := 35) (pc' := 14) rfl (hb hby own_dsc1_35) (by decide) (by decide) (XS.iload X2.here hx rfl (hb hby own_dsc1_14) rfl  k))))) ?_
  refine own_s T2 (mkF m 39 #[rv a1, .val (.double (FP.l2d ((0 : Int64) + z0))), v_, rv ar, iv 1, iv 1, .val (.double (FP.l2d z0)), v_] [(.double (FP.l2d ((0 : Int64) + z0)))]) (fun _ k => XS.iload X2.here hx rfl (hb hby own_dsc1_16) rfl  (XS.icmpYes X2.here hx rfl (pc0 := 18) (pc' := 38) rfl (hb hby own_dsc1_18) rfl (flt (by decide : ¬ ((1 : Int32) < (1 : Int32)))).2.1 (by decide) (by decide) (XS.dloadN X2.here hx rfl (hb hby own_dsc1_38) rfl  k))) ?_
  exact own_finD X2 hx hret (hb hby own_dsc1_39) (own_end (Qv := (own_Qsc1 Z a1 ar k1 z0 h0 n0)) X2 (own_some hret) hlk (by decide) (by decide) e2 ⟨rfl, N0, rfl⟩)
theorem own_dsc2_0 : decode prog_58_method_2_code 0 = .ok (.dconst 0, 1) := by decide +kernel
theorem own_dsc2_1 : decode prog_58_method_2_code 1 = .ok (.dstore_n 1, 1) := by decide +kernel
theorem own_dsc2_2 : decode prog_58_method_2_code 2 = .ok (.aload_n 0, 1) := by decide +kernel
theorem own_dsc2_3 : decode prog_58_method_2_code 3 = .ok (.getfield 7, 3) := by decide +kernel
theorem own_dsc2_6 : decode prog_58_method_2_code 6 = .ok (.astore_n 3, 1) := by decide +kernel
theorem own_dsc2_7 : decode prog_58_method_2_code 7 = .ok (.aload_n 3, 1) := by decide +kernel
theorem own_dsc2_8 : decode prog_58_method_2_code 8 = .ok (.arraylength, 1) := by decide +kernel
theorem own_dsc2_9 : decode prog_58_method_2_code 9 = .ok (.istore 4, 2) := by decide +kernel
theorem own_dsc2_11 : decode prog_58_method_2_code 11 = .ok (.iconst 0, 1) := by decide +kernel
theorem own_dsc2_12 : decode prog_58_method_2_code 12 = .ok (.istore 5, 2) := by decide +kernel
theorem own_dsc2_14 : decode prog_58_method_2_code 14 = .ok (.iload 5, 2) := by decide +kernel
theorem own_dsc2_16 : decode prog_58_method_2_code 16 = .ok (.iload 4, 2) := by decide +kernel
theorem own_dsc2_18 : decode prog_58_method_2_code 18 = .ok (.if_icmp .ge 20, 3) := by decide +kernel
theorem own_dsc2_21 : decode prog_58_method_2_code 21 = .ok (.aload_n 3, 1) := by decide +kernel
theorem own_dsc2_22 : decode prog_58_method_2_code 22 = .ok (.iload 5, 2) := by decide +kernel
theorem own_dsc2_24 : decode prog_58_method_2_code 24 = .ok (.daload, 1) := by decide +kernel
theorem own_dsc2_25 : decode prog_58_method_2_code 25 = .ok (.dstore 6, 2) := by decide +kernel
theorem own_dsc2_27 : decode prog_58_method_2_code 27 = .ok (.dload_n 1, 1) := by decide +kernel
theorem own_dsc2_28 : decode prog_58_method_2_code 28 = .ok (.dload 6, 2) := by decide +kernel
theorem own_dsc2_30 : decode prog_58_method_2_code 30 = .ok (.dadd, 1) := by decide +kernel
theorem own_dsc2_31 : decode prog_58_method_2_code 31 = .ok (.dstore_n 1, 1) := by decide +kernel
theorem own_dsc2_32 : decode prog_58_method_2_code 32 = .ok (.iinc 5 1, 3) := by decide +kernel
theorem own_dsc2_35 : decode prog_58_method_2_code 35 = .ok (.goto (-21), 3) := by decide +kernel
theorem own_dsc2_38 : decode prog_58_method_2_code 38 = .ok (.dload_n 1, 1) := by decide +kernel
theorem own_dsc2_39 : decode prog_58_method_2_code 39 = .ok (.dreturn, 1) := by decide +kernel
theorem own_efsc2 (m : MethodId) (x0 : Addr) : entryFrame m #[(.ref x0)] 8 = mkF m 0 #[rv x0, u_, u_, u_, u_, u_, u_, u_] [] := by first | (simp [entryFrame, mkF, argsToLocals, Value.category]; done) | rfl
def own_Qsc2 (Z : State) (a1 : Addr) (ar : Addr) (k1 : ClassId) (z0 z1 : Int64) (h0 : Heap) (n0 : Nat) : Option Value → Heap → List Loc → Prop := fun v h L => v = some (.double (FP.l2d (((0 : Int64) + z0) + z1))) ∧ Fr n0 L ∧ h = h0
def own_Rsc2 : Room := { frames := 0, cells := 0, slots := 0, locals := 0 }
set_option maxRecDepth 65536 in
set_option maxHeartbeats 40000000 in
theorem own_rmsc2 (l : Launch) (Z : State) (a0 : Array Value) (hw : ∀ d ∈ tables_1, d.before a0 Z = true) (ws : List Jvm.Cond) (a1 : Addr) (ar : Addr) (k1 : ClassId) (z0 z1 : Int64) (h0 : Heap) (n0 : Nat) (Z0 : n0 ≤ h0.size) (F1 : Fld Z h0 a1 "com/example/allotrope/allotrope/procure/ProcureScores" "projectScores" "[D" (.ref ar)) (V1 : Arv Z h0 ar k1 .double (2 : Int32) [(.double (FP.l2d z0)), (.double (FP.l2d z1))] (.double (FP.l2d 0))) (m_z0 : own_Mg 2147483648 z0) (m_z1 : own_Mg 2147483648 z1) :
    own_Met l Z own_y1 prog_58_method_2_code 8 (some .double) ws own_Rsc2 h0 #[(.ref a1)] (own_Qsc2 Z a1 ar k1 z0 z1 h0 n0) own_Rsc2.cells own_Rsc2.slots := by
  refine own_start (plainFor_of_name own_pn0) ?_
  intro p e s m below meth c s₁ X0 hx hZ hby hml hret hlk hown hnm e0
  have hown : s.vm.findClass "com/example/allotrope/allotrope/procure/ProcureScores" = some m.cls := hown
  have hml : c.maxLocals = 8 := hml
  have N0 := Fr.nil n0
  refine own_cast (own_efsc2 m a1) ?_
  have mg1 := own_mgLit (0 : Int64) (K := 0) rfl rfl
  refine own_s s₁ (mkF m 3 #[rv a1, .val (.double (FP.l2d (0 : Int64))), v_, u_, u_, u_, u_, u_] [(.ref a1)]) (fun _ k => XS.dconst0 X0.here hx rfl (hb hby own_dsc2_0) own_dc0 (XS.dstoreN X0.here hx rfl (hb hby own_dsc2_1) rfl (l' := #[rv a1, .val (.double (FP.l2d (0 : Int64))), v_, u_, u_, u_, u_, u_]) rfl (XS.aloadN X0.here hx rfl (hb hby own_dsc2_2) rfl rfl k))) ?_
  obtain ⟨T2, X2, e2, st2⟩ := getF X0 hx hZ hown (host := "") (Or.inl (own_h hw 10 rfl)) Via.refl e0 F1 (g := (mkF m 3 #[rv a1, .val (.double (FP.l2d (0 : Int64))), v_, u_, u_, u_, u_, u_] [(.ref a1)])) rfl rfl (hb hby own_dsc2_3)
  refine own_s T2 (mkF m 6 #[rv a1, .val (.double (FP.l2d (0 : Int64))), v_, u_, u_, u_, u_, u_] [(.ref ar)]) st2 ?_
  refine own_s T2 (mkF m 8 #[rv a1, .val (.double (FP.l2d (0 : Int64))), v_, rv ar, u_, u_, u_, u_] [(.ref ar)]) (fun _ k => XS.astoreN X2.here hx rfl (hb hby own_dsc2_6) rfl rfl (l' := #[rv a1, .val (.double (FP.l2d (0 : Int64))), v_, rv ar, u_, u_, u_, u_]) rfl (XS.aloadN X2.here hx rfl (hb hby own_dsc2_7) rfl rfl k)) ?_
  obtain ⟨cl3, Ar3, q3, S3, Nn3, H3, G3⟩ := id V1
  refine own_s T2 (mkF m 16 #[rv a1, .val (.double (FP.l2d (0 : Int64))), v_, rv ar, iv 2, iv 0, u_, u_] [(.int 0)]) (fun _ k => own_len X2 hx hZ e2 Ar3 S3 Nn3 (g := (mkF m 8 #[rv a1, .val (.double (FP.l2d (0 : Int64))), v_, rv ar, u_, u_, u_, u_] [(.ref ar)])) rfl rfl (hb hby own_dsc2_8) (XS.istore X2.here hx rfl (hb hby own_dsc2_9) rfl (l' := #[rv a1, .val (.double (FP.l2d (0 : Int64))), v_, rv ar, iv 2, u_, u_, u_]) rfl (XS.iconst X2.here hx rfl (hb hby own_dsc2_11) (XS.istore X2.here hx rfl (hb hby own_dsc2_12) rfl (l' := #[rv a1, .val (.double (FP.l2d (0 : Int64))), v_, rv ar, iv 2, iv 0, u_, u_]) rfl (XS.iload X2.here hx rfl (hb hby own_dsc2_14) rfl  k))))) ?_
  refine own_s T2 (mkF m 24 #[rv a1, .val (.double (FP.l2d (0 : Int64))), v_, rv ar, iv 2, iv 0, u_, u_] [(.int 0), (.ref ar)]) (fun _ k => XS.iload X2.here hx rfl (hb hby own_dsc2_16) rfl  (XS.icmpNo X2.here hx rfl (hb hby own_dsc2_18) rfl (tlt (by decide : ((0 : Int32) < (2 : Int32)))).2.1 (XS.aloadN X2.here hx rfl (hb hby own_dsc2_21) rfl rfl (XS.iload X2.here hx rfl (hb hby own_dsc2_22) rfl  k)))) ?_
  obtain ⟨cl4, Ar4, q4, S4, Nn4, H4, G4⟩ := id V1
  have hin4 : ¬ ((0 : Int32) < 0 ∨ cl4.slots.size ≤ ((0 : Int32)).toNatClampNeg) := (inb_of S4 ⟨by decide, by decide⟩)
  refine own_s T2 (mkF m 30 #[rv a1, .val (.double (FP.l2d (0 : Int64))), v_, rv ar, iv 2, iv 0, .val (.double (FP.l2d z0)), v_] [(.double (FP.l2d z0)), (.double (FP.l2d (0 : Int64)))]) (fun _ k => X2.daload hx (j := (0 : Int32)) (v := (.double (FP.l2d z0))) (own_at e2 Ar4.1) (State.isArrayOf_alike hZ.alike Ar4.2.1) Ar4.2.2 hin4 (Has.at H4 hin4 rfl) (g := (mkF m 24 #[rv a1, .val (.double (FP.l2d (0 : Int64))), v_, rv ar, iv 2, iv 0, u_, u_] [(.int 0), (.ref ar)])) rfl rfl (hb hby own_dsc2_24) _ (XS.dstore X2.here hx rfl (hb hby own_dsc2_25) rfl (l' := #[rv a1, .val (.double (FP.l2d (0 : Int64))), v_, rv ar, iv 2, iv 0, .val (.double (FP.l2d z0)), v_]) rfl (XS.dloadN X2.here hx rfl (hb hby own_dsc2_27) rfl  (XS.dload X2.here hx rfl (hb hby own_dsc2_28) rfl  k)))) ?_
  have dw5 := dadd_w (own_mgB mg1 (by decide)) (own_mgB m_z0 (by decide))
  have mg5 := own_mgAdd mg1 m_z0 (by decide)
  refine own_s T2 (mkF m 16 #[rv a1, .val (.double (FP.l2d ((0 : Int64) + z0))), v_, rv ar, iv 2, iv 1, .val (.double (FP.l2d z0)), v_] [(.int 1)]) (fun _ k => XS.daddS X2.here hx rfl (hb hby own_dsc2_30) rfl (nn_w dw5) dw5 (XS.dstoreN X2.here hx rfl (hb hby own_dsc2_31) rfl (l' := #[rv a1, .val (.double (FP.l2d ((0 : Int64) + z0))), v_, rv ar, iv 2, iv 0, .val (.double (FP.l2d z0)), v_]) rfl (XS.iinc X2.here hx rfl (hb hby own_dsc2_32) rfl (l' := #[rv a1, .val (.double (FP.l2d ((0 : Int64) + z0))), v_, rv ar, iv 2, iv 1, .val (.double (FP.l2d z0)), v_]) rfl (XS.goto X2.here hx rfl (pc0 := 35) (pc' := 14) rfl (hb hby own_dsc2_35) (by decide) (by decide) (XS.iload X2.here hx rfl (hb hby own_dsc2_14) rfl  k))))) ?_
  refine own_s T2 (mkF m 24 #[rv a1, .val (.double (FP.l2d ((0 : Int64) + z0))), v_, rv ar, iv 2, iv 1, .val (.double (FP.l2d z0)), v_] [(.int 1), (.ref ar)]) (fun _ k => XS.iload X2.here hx rfl (hb hby own_dsc2_16) rfl  (XS.icmpNo X2.here hx rfl (hb hby own_dsc2_18) rfl (tlt (by decide : ((1 : Int32) < (2 : Int32)))).2.1 (XS.aloadN X2.here hx rfl (hb hby own_dsc2_21) rfl rfl (XS.iload X2.here hx rfl (hb hby own_dsc2_22) rfl  k)))) ?_
  obtain ⟨cl6, Ar6, q6, S6, Nn6, H6, G6⟩ := id V1
  have hin6 : ¬ ((1 : Int32) < 0 ∨ cl6.slots.size ≤ ((1 : Int32)).toNatClampNeg) := (inb_of S6 ⟨by decide, by decide⟩)
  refine own_s T2 (mkF m 30 #[rv a1, .val (.double (FP.l2d ((0 : Int64) + z0))), v_, rv ar, iv 2, iv 1, .val (.double (FP.l2d z1)), v_] [(.double (FP.l2d z1)), (.double (FP.l2d ((0 : Int64) + z0)))]) (fun _ k => X2.daload hx (j := (1 : Int32)) (v := (.double (FP.l2d z1))) (own_at e2 Ar6.1) (State.isArrayOf_alike hZ.alike Ar6.2.1) Ar6.2.2 hin6 (Has.at H6 hin6 rfl) (g := (mkF m 24 #[rv a1, .val (.double (FP.l2d ((0 : Int64) + z0))), v_, rv ar, iv 2, iv 1, .val (.double (FP.l2d z0)), v_] [(.int 1), (.ref ar)])) rfl rfl (hb hby own_dsc2_24) _ (XS.dstore X2.here hx rfl (hb hby own_dsc2_25) rfl (l' := #[rv a1, .val (.double (FP.l2d ((0 : Int64) + z0))), v_, rv ar, iv 2, iv 1, .val (.double (FP.l2d z1)), v_]) rfl (XS.dloadN X2.here hx rfl (hb hby own_dsc2_27) rfl  (XS.dload X2.here hx rfl (hb hby own_dsc2_28) rfl  k)))) ?_
  have dw7 := dadd_w (own_mgB mg5 (by decide)) (own_mgB m_z1 (by decide))
  have mg7 := own_mgAdd mg5 m_z1 (by decide)
  refine own_s T2 (mkF m 16 #[rv a1, .val (.double (FP.l2d (((0 : Int64) + z0) + z1))), v_, rv ar, iv 2, iv 2, .val (.double (FP.l2d z1)), v_] [(.int 2)]) (fun _ k => XS.daddS X2.here hx rfl (hb hby own_dsc2_30) rfl (nn_w dw7) dw7 (XS.dstoreN X2.here hx rfl (hb hby own_dsc2_31) rfl (l' := #[rv a1, .val (.double (FP.l2d (((0 : Int64) + z0) + z1))), v_, rv ar, iv 2, iv 1, .val (.double (FP.l2d z1)), v_]) rfl (XS.iinc X2.here hx rfl (hb hby own_dsc2_32) rfl (l' := #[rv a1, .val (.double (FP.l2d (((0 : Int64) + z0) + z1))), v_, rv ar, iv 2, iv 2, .val (.double (FP.l2d z1)), v_]) rfl (XS.goto X2.here hx rfl (pc0 := 35) (pc' := 14) rfl (hb hby own_dsc2_35) (by decide) (by decide) (XS.iload X2.here hx rfl (hb hby own_dsc2_14) rfl  k))))) ?_
  refine own_s T2 (mkF m 39 #[rv a1, .val (.double (FP.l2d (((0 : Int64) + z0) + z1))), v_, rv ar, iv 2, iv 2, .val (.double (FP.l2d z1)), v_] [(.double (FP.l2d (((0 : Int64) + z0) + z1)))]) (fun _ k => XS.iload X2.here hx rfl (hb hby own_dsc2_16) rfl  (XS.icmpYes X2.here hx rfl (pc0 := 18) (pc' := 38) rfl (hb hby own_dsc2_18) rfl (flt (by decide : ¬ ((2 : Int32) < (2 : Int32)))).2.1 (by decide) (by decide) (XS.dloadN X2.here hx rfl (hb hby own_dsc2_38) rfl  k))) ?_
  exact own_finD X2 hx hret (hb hby own_dsc2_39) (own_end (Qv := (own_Qsc2 Z a1 ar k1 z0 z1 h0 n0)) X2 (own_some hret) hlk (by decide) (by decide) e2 ⟨rfl, N0, rfl⟩)
theorem own_dsc3_0 : decode prog_58_method_2_code 0 = .ok (.dconst 0, 1) := by decide +kernel
theorem own_dsc3_1 : decode prog_58_method_2_code 1 = .ok (.dstore_n 1, 1) := by decide +kernel
theorem own_dsc3_2 : decode prog_58_method_2_code 2 = .ok (.aload_n 0, 1) := by decide +kernel
theorem own_dsc3_3 : decode prog_58_method_2_code 3 = .ok (.getfield 7, 3) := by decide +kernel
theorem own_dsc3_6 : decode prog_58_method_2_code 6 = .ok (.astore_n 3, 1) := by decide +kernel
theorem own_dsc3_7 : decode prog_58_method_2_code 7 = .ok (.aload_n 3, 1) := by decide +kernel
theorem own_dsc3_8 : decode prog_58_method_2_code 8 = .ok (.arraylength, 1) := by decide +kernel
theorem own_dsc3_9 : decode prog_58_method_2_code 9 = .ok (.istore 4, 2) := by decide +kernel
theorem own_dsc3_11 : decode prog_58_method_2_code 11 = .ok (.iconst 0, 1) := by decide +kernel
theorem own_dsc3_12 : decode prog_58_method_2_code 12 = .ok (.istore 5, 2) := by decide +kernel
theorem own_dsc3_14 : decode prog_58_method_2_code 14 = .ok (.iload 5, 2) := by decide +kernel
theorem own_dsc3_16 : decode prog_58_method_2_code 16 = .ok (.iload 4, 2) := by decide +kernel
theorem own_dsc3_18 : decode prog_58_method_2_code 18 = .ok (.if_icmp .ge 20, 3) := by decide +kernel
theorem own_dsc3_21 : decode prog_58_method_2_code 21 = .ok (.aload_n 3, 1) := by decide +kernel
theorem own_dsc3_22 : decode prog_58_method_2_code 22 = .ok (.iload 5, 2) := by decide +kernel
theorem own_dsc3_24 : decode prog_58_method_2_code 24 = .ok (.daload, 1) := by decide +kernel
theorem own_dsc3_25 : decode prog_58_method_2_code 25 = .ok (.dstore 6, 2) := by decide +kernel
theorem own_dsc3_27 : decode prog_58_method_2_code 27 = .ok (.dload_n 1, 1) := by decide +kernel
theorem own_dsc3_28 : decode prog_58_method_2_code 28 = .ok (.dload 6, 2) := by decide +kernel
theorem own_dsc3_30 : decode prog_58_method_2_code 30 = .ok (.dadd, 1) := by decide +kernel
theorem own_dsc3_31 : decode prog_58_method_2_code 31 = .ok (.dstore_n 1, 1) := by decide +kernel
theorem own_dsc3_32 : decode prog_58_method_2_code 32 = .ok (.iinc 5 1, 3) := by decide +kernel
theorem own_dsc3_35 : decode prog_58_method_2_code 35 = .ok (.goto (-21), 3) := by decide +kernel
theorem own_dsc3_38 : decode prog_58_method_2_code 38 = .ok (.dload_n 1, 1) := by decide +kernel
theorem own_dsc3_39 : decode prog_58_method_2_code 39 = .ok (.dreturn, 1) := by decide +kernel
theorem own_efsc3 (m : MethodId) (x0 : Addr) : entryFrame m #[(.ref x0)] 8 = mkF m 0 #[rv x0, u_, u_, u_, u_, u_, u_, u_] [] := by first | (simp [entryFrame, mkF, argsToLocals, Value.category]; done) | rfl
def own_Qsc3 (Z : State) (a1 : Addr) (ar : Addr) (k1 : ClassId) (z0 z1 z2 : Int64) (h0 : Heap) (n0 : Nat) : Option Value → Heap → List Loc → Prop := fun v h L => v = some (.double (FP.l2d ((((0 : Int64) + z0) + z1) + z2))) ∧ Fr n0 L ∧ h = h0
def own_Rsc3 : Room := { frames := 0, cells := 0, slots := 0, locals := 0 }
set_option maxRecDepth 65536 in
set_option maxHeartbeats 40000000 in
theorem own_rmsc3 (l : Launch) (Z : State) (a0 : Array Value) (hw : ∀ d ∈ tables_1, d.before a0 Z = true) (ws : List Jvm.Cond) (a1 : Addr) (ar : Addr) (k1 : ClassId) (z0 z1 z2 : Int64) (h0 : Heap) (n0 : Nat) (Z0 : n0 ≤ h0.size) (F1 : Fld Z h0 a1 "com/example/allotrope/allotrope/procure/ProcureScores" "projectScores" "[D" (.ref ar)) (V1 : Arv Z h0 ar k1 .double (3 : Int32) [(.double (FP.l2d z0)), (.double (FP.l2d z1)), (.double (FP.l2d z2))] (.double (FP.l2d 0))) (m_z0 : own_Mg 2147483648 z0) (m_z1 : own_Mg 2147483648 z1) (m_z2 : own_Mg 2147483648 z2) :
    own_Met l Z own_y1 prog_58_method_2_code 8 (some .double) ws own_Rsc3 h0 #[(.ref a1)] (own_Qsc3 Z a1 ar k1 z0 z1 z2 h0 n0) own_Rsc3.cells own_Rsc3.slots := by
  refine own_start (plainFor_of_name own_pn0) ?_
  intro p e s m below meth c s₁ X0 hx hZ hby hml hret hlk hown hnm e0
  have hown : s.vm.findClass "com/example/allotrope/allotrope/procure/ProcureScores" = some m.cls := hown
  have hml : c.maxLocals = 8 := hml
  have N0 := Fr.nil n0
  refine own_cast (own_efsc3 m a1) ?_
  have mg1 := own_mgLit (0 : Int64) (K := 0) rfl rfl
  refine own_s s₁ (mkF m 3 #[rv a1, .val (.double (FP.l2d (0 : Int64))), v_, u_, u_, u_, u_, u_] [(.ref a1)]) (fun _ k => XS.dconst0 X0.here hx rfl (hb hby own_dsc3_0) own_dc0 (XS.dstoreN X0.here hx rfl (hb hby own_dsc3_1) rfl (l' := #[rv a1, .val (.double (FP.l2d (0 : Int64))), v_, u_, u_, u_, u_, u_]) rfl (XS.aloadN X0.here hx rfl (hb hby own_dsc3_2) rfl rfl k))) ?_
  obtain ⟨T2, X2, e2, st2⟩ := getF X0 hx hZ hown (host := "") (Or.inl (own_h hw 10 rfl)) Via.refl e0 F1 (g := (mkF m 3 #[rv a1, .val (.double (FP.l2d (0 : Int64))), v_, u_, u_, u_, u_, u_] [(.ref a1)])) rfl rfl (hb hby own_dsc3_3)
  refine own_s T2 (mkF m 6 #[rv a1, .val (.double (FP.l2d (0 : Int64))), v_, u_, u_, u_, u_, u_] [(.ref ar)]) st2 ?_
  refine own_s T2 (mkF m 8 #[rv a1, .val (.double (FP.l2d (0 : Int64))), v_, rv ar, u_, u_, u_, u_] [(.ref ar)]) (fun _ k => XS.astoreN X2.here hx rfl (hb hby own_dsc3_6) rfl rfl (l' := #[rv a1, .val (.double (FP.l2d (0 : Int64))), v_, rv ar, u_, u_, u_, u_]) rfl (XS.aloadN X2.here hx rfl (hb hby own_dsc3_7) rfl rfl k)) ?_
  obtain ⟨cl3, Ar3, q3, S3, Nn3, H3, G3⟩ := id V1
  refine own_s T2 (mkF m 16 #[rv a1, .val (.double (FP.l2d (0 : Int64))), v_, rv ar, iv 3, iv 0, u_, u_] [(.int 0)]) (fun _ k => own_len X2 hx hZ e2 Ar3 S3 Nn3 (g := (mkF m 8 #[rv a1, .val (.double (FP.l2d (0 : Int64))), v_, rv ar, u_, u_, u_, u_] [(.ref ar)])) rfl rfl (hb hby own_dsc3_8) (XS.istore X2.here hx rfl (hb hby own_dsc3_9) rfl (l' := #[rv a1, .val (.double (FP.l2d (0 : Int64))), v_, rv ar, iv 3, u_, u_, u_]) rfl (XS.iconst X2.here hx rfl (hb hby own_dsc3_11) (XS.istore X2.here hx rfl (hb hby own_dsc3_12) rfl (l' := #[rv a1, .val (.double (FP.l2d (0 : Int64))), v_, rv ar, iv 3, iv 0, u_, u_]) rfl (XS.iload X2.here hx rfl (hb hby own_dsc3_14) rfl  k))))) ?_
  refine own_s T2 (mkF m 24 #[rv a1, .val (.double (FP.l2d (0 : Int64))), v_, rv ar, iv 3, iv 0, u_, u_] [(.int 0), (.ref ar)]) (fun _ k => XS.iload X2.here hx rfl (hb hby own_dsc3_16) rfl  (XS.icmpNo X2.here hx rfl (hb hby own_dsc3_18) rfl (tlt (by decide : ((0 : Int32) < (3 : Int32)))).2.1 (XS.aloadN X2.here hx rfl (hb hby own_dsc3_21) rfl rfl (XS.iload X2.here hx rfl (hb hby own_dsc3_22) rfl  k)))) ?_
  obtain ⟨cl4, Ar4, q4, S4, Nn4, H4, G4⟩ := id V1
  have hin4 : ¬ ((0 : Int32) < 0 ∨ cl4.slots.size ≤ ((0 : Int32)).toNatClampNeg) := (inb_of S4 ⟨by decide, by decide⟩)
  refine own_s T2 (mkF m 30 #[rv a1, .val (.double (FP.l2d (0 : Int64))), v_, rv ar, iv 3, iv 0, .val (.double (FP.l2d z0)), v_] [(.double (FP.l2d z0)), (.double (FP.l2d (0 : Int64)))]) (fun _ k => X2.daload hx (j := (0 : Int32)) (v := (.double (FP.l2d z0))) (own_at e2 Ar4.1) (State.isArrayOf_alike hZ.alike Ar4.2.1) Ar4.2.2 hin4 (Has.at H4 hin4 rfl) (g := (mkF m 24 #[rv a1, .val (.double (FP.l2d (0 : Int64))), v_, rv ar, iv 3, iv 0, u_, u_] [(.int 0), (.ref ar)])) rfl rfl (hb hby own_dsc3_24) _ (XS.dstore X2.here hx rfl (hb hby own_dsc3_25) rfl (l' := #[rv a1, .val (.double (FP.l2d (0 : Int64))), v_, rv ar, iv 3, iv 0, .val (.double (FP.l2d z0)), v_]) rfl (XS.dloadN X2.here hx rfl (hb hby own_dsc3_27) rfl  (XS.dload X2.here hx rfl (hb hby own_dsc3_28) rfl  k)))) ?_
  have dw5 := dadd_w (own_mgB mg1 (by decide)) (own_mgB m_z0 (by decide))
  have mg5 := own_mgAdd mg1 m_z0 (by decide)
  refine own_s T2 (mkF m 16 #[rv a1, .val (.double (FP.l2d ((0 : Int64) + z0))), v_, rv ar, iv 3, iv 1, .val (.double (FP.l2d z0)), v_] [(.int 1)]) (fun _ k => XS.daddS X2.here hx rfl (hb hby own_dsc3_30) rfl (nn_w dw5) dw5 (XS.dstoreN X2.here hx rfl (hb hby own_dsc3_31) rfl (l' := #[rv a1, .val (.double (FP.l2d ((0 : Int64) + z0))), v_, rv ar, iv 3, iv 0, .val (.double (FP.l2d z0)), v_]) rfl (XS.iinc X2.here hx rfl (hb hby own_dsc3_32) rfl (l' := #[rv a1, .val (.double (FP.l2d ((0 : Int64) + z0))), v_, rv ar, iv 3, iv 1, .val (.double (FP.l2d z0)), v_]) rfl (XS.goto X2.here hx rfl (pc0 := 35) (pc' := 14) rfl (hb hby own_dsc3_35) (by decide) (by decide) (XS.iload X2.here hx rfl (hb hby own_dsc3_14) rfl  k))))) ?_
  refine own_s T2 (mkF m 24 #[rv a1, .val (.double (FP.l2d ((0 : Int64) + z0))), v_, rv ar, iv 3, iv 1, .val (.double (FP.l2d z0)), v_] [(.int 1), (.ref ar)]) (fun _ k => XS.iload X2.here hx rfl (hb hby own_dsc3_16) rfl  (XS.icmpNo X2.here hx rfl (hb hby own_dsc3_18) rfl (tlt (by decide : ((1 : Int32) < (3 : Int32)))).2.1 (XS.aloadN X2.here hx rfl (hb hby own_dsc3_21) rfl rfl (XS.iload X2.here hx rfl (hb hby own_dsc3_22) rfl  k)))) ?_
  obtain ⟨cl6, Ar6, q6, S6, Nn6, H6, G6⟩ := id V1
  have hin6 : ¬ ((1 : Int32) < 0 ∨ cl6.slots.size ≤ ((1 : Int32)).toNatClampNeg) := (inb_of S6 ⟨by decide, by decide⟩)
  refine own_s T2 (mkF m 30 #[rv a1, .val (.double (FP.l2d ((0 : Int64) + z0))), v_, rv ar, iv 3, iv 1, .val (.double (FP.l2d z1)), v_] [(.double (FP.l2d z1)), (.double (FP.l2d ((0 : Int64) + z0)))]) (fun _ k => X2.daload hx (j := (1 : Int32)) (v := (.double (FP.l2d z1))) (own_at e2 Ar6.1) (State.isArrayOf_alike hZ.alike Ar6.2.1) Ar6.2.2 hin6 (Has.at H6 hin6 rfl) (g := (mkF m 24 #[rv a1, .val (.double (FP.l2d ((0 : Int64) + z0))), v_, rv ar, iv 3, iv 1, .val (.double (FP.l2d z0)), v_] [(.int 1), (.ref ar)])) rfl rfl (hb hby own_dsc3_24) _ (XS.dstore X2.here hx rfl (hb hby own_dsc3_25) rfl (l' := #[rv a1, .val (.double (FP.l2d ((0 : Int64) + z0))), v_, rv ar, iv 3, iv 1, .val (.double (FP.l2d z1)), v_]) rfl (XS.dloadN X2.here hx rfl (hb hby own_dsc3_27) rfl  (XS.dload X2.here hx rfl (hb hby own_dsc3_28) rfl  k)))) ?_
  have dw7 := dadd_w (own_mgB mg5 (by decide)) (own_mgB m_z1 (by decide))
  have mg7 := own_mgAdd mg5 m_z1 (by decide)
  refine own_s T2 (mkF m 16 #[rv a1, .val (.double (FP.l2d (((0 : Int64) + z0) + z1))), v_, rv ar, iv 3, iv 2, .val (.double (FP.l2d z1)), v_] [(.int 2)]) (fun _ k => XS.daddS X2.here hx rfl (hb hby own_dsc3_30) rfl (nn_w dw7) dw7 (XS.dstoreN X2.here hx rfl (hb hby own_dsc3_31) rfl (l' := #[rv a1, .val (.double (FP.l2d (((0 : Int64) + z0) + z1))), v_, rv ar, iv 3, iv 1, .val (.double (FP.l2d z1)), v_]) rfl (XS.iinc X2.here hx rfl (hb hby own_dsc3_32) rfl (l' := #[rv a1, .val (.double (FP.l2d (((0 : Int64) + z0) + z1))), v_, rv ar, iv 3, iv 2, .val (.double (FP.l2d z1)), v_]) rfl (XS.goto X2.here hx rfl (pc0 := 35) (pc' := 14) rfl (hb hby own_dsc3_35) (by decide) (by decide) (XS.iload X2.here hx rfl (hb hby own_dsc3_14) rfl  k))))) ?_
  refine own_s T2 (mkF m 24 #[rv a1, .val (.double (FP.l2d (((0 : Int64) + z0) + z1))), v_, rv ar, iv 3, iv 2, .val (.double (FP.l2d z1)), v_] [(.int 2), (.ref ar)]) (fun _ k => XS.iload X2.here hx rfl (hb hby own_dsc3_16) rfl  (XS.icmpNo X2.here hx rfl (hb hby own_dsc3_18) rfl (tlt (by decide : ((2 : Int32) < (3 : Int32)))).2.1 (XS.aloadN X2.here hx rfl (hb hby own_dsc3_21) rfl rfl (XS.iload X2.here hx rfl (hb hby own_dsc3_22) rfl  k)))) ?_
  obtain ⟨cl8, Ar8, q8, S8, Nn8, H8, G8⟩ := id V1
  have hin8 : ¬ ((2 : Int32) < 0 ∨ cl8.slots.size ≤ ((2 : Int32)).toNatClampNeg) := (inb_of S8 ⟨by decide, by decide⟩)
  refine own_s T2 (mkF m 30 #[rv a1, .val (.double (FP.l2d (((0 : Int64) + z0) + z1))), v_, rv ar, iv 3, iv 2, .val (.double (FP.l2d z2)), v_] [(.double (FP.l2d z2)), (.double (FP.l2d (((0 : Int64) + z0) + z1)))]) (fun _ k => X2.daload hx (j := (2 : Int32)) (v := (.double (FP.l2d z2))) (own_at e2 Ar8.1) (State.isArrayOf_alike hZ.alike Ar8.2.1) Ar8.2.2 hin8 (Has.at H8 hin8 rfl) (g := (mkF m 24 #[rv a1, .val (.double (FP.l2d (((0 : Int64) + z0) + z1))), v_, rv ar, iv 3, iv 2, .val (.double (FP.l2d z1)), v_] [(.int 2), (.ref ar)])) rfl rfl (hb hby own_dsc3_24) _ (XS.dstore X2.here hx rfl (hb hby own_dsc3_25) rfl (l' := #[rv a1, .val (.double (FP.l2d (((0 : Int64) + z0) + z1))), v_, rv ar, iv 3, iv 2, .val (.double (FP.l2d z2)), v_]) rfl (XS.dloadN X2.here hx rfl (hb hby own_dsc3_27) rfl  (XS.dload X2.here hx rfl (hb hby own_dsc3_28) rfl  k)))) ?_
  have dw9 := dadd_w (own_mgB mg7 (by decide)) (own_mgB m_z2 (by decide))
  have mg9 := own_mgAdd mg7 m_z2 (by decide)
  refine own_s T2 (mkF m 16 #[rv a1, .val (.double (FP.l2d ((((0 : Int64) + z0) + z1) + z2))), v_, rv ar, iv 3, iv 3, .val (.double (FP.l2d z2)), v_] [(.int 3)]) (fun _ k => XS.daddS X2.here hx rfl (hb hby own_dsc3_30) rfl (nn_w dw9) dw9 (XS.dstoreN X2.here hx rfl (hb hby own_dsc3_31) rfl (l' := #[rv a1, .val (.double (FP.l2d ((((0 : Int64) + z0) + z1) + z2))), v_, rv ar, iv 3, iv 2, .val (.double (FP.l2d z2)), v_]) rfl (XS.iinc X2.here hx rfl (hb hby own_dsc3_32) rfl (l' := #[rv a1, .val (.double (FP.l2d ((((0 : Int64) + z0) + z1) + z2))), v_, rv ar, iv 3, iv 3, .val (.double (FP.l2d z2)), v_]) rfl (XS.goto X2.here hx rfl (pc0 := 35) (pc' := 14) rfl (hb hby own_dsc3_35) (by decide) (by decide) (XS.iload X2.here hx rfl (hb hby own_dsc3_14) rfl  k))))) ?_
  refine own_s T2 (mkF m 39 #[rv a1, .val (.double (FP.l2d ((((0 : Int64) + z0) + z1) + z2))), v_, rv ar, iv 3, iv 3, .val (.double (FP.l2d z2)), v_] [(.double (FP.l2d ((((0 : Int64) + z0) + z1) + z2)))]) (fun _ k => XS.iload X2.here hx rfl (hb hby own_dsc3_16) rfl  (XS.icmpYes X2.here hx rfl (pc0 := 18) (pc' := 38) rfl (hb hby own_dsc3_18) rfl (flt (by decide : ¬ ((3 : Int32) < (3 : Int32)))).2.1 (by decide) (by decide) (XS.dloadN X2.here hx rfl (hb hby own_dsc3_38) rfl  k))) ?_
  exact own_finD X2 hx hret (hb hby own_dsc3_39) (own_end (Qv := (own_Qsc3 Z a1 ar k1 z0 z1 z2 h0 n0)) X2 (own_some hret) hlk (by decide) (by decide) e2 ⟨rfl, N0, rfl⟩)
theorem own_pd0 : parseMethodDescriptor "([D)V" = some ⟨[(.array .double)], none⟩ := by decide +kernel
theorem own_pd1 : parseMethodDescriptor "()D" = some ⟨[], some .double⟩ := by decide +kernel
theorem own_pn1 : plainName "com/example/allotrope/allotrope/procure/ProcureScoresScorePinLaw" = true := by first | (simp [plainName, overriddenIn]; done) | decide +kernel
theorem own_ef0 (m : MethodId) (x0 : Int32) (x1 : Int32) (x2 : Int32) (x3 : Int32) : entryFrame m #[(.int x0), (.int x1), (.int x2), (.int x3)] maxLocals = mkF m 0 #[iv x0, iv x1, iv x2, iv x3, u_, u_, u_, u_, u_, u_, u_, u_] [] := by first | (simp [entryFrame, mkF, argsToLocals, Value.category, maxLocals]; done) | rfl
def own_Q0 (Z : State) (p1 : Int32) (p2 : Int32) (p3 : Int32) (p4 : Int32) (h0 : Heap) (n0 : Nat) : Option Value → Heap → List Loc → Prop := fun v h L => v = some (.int 1) ∧ Fr n0 L
set_option maxRecDepth 65536 in
set_option maxHeartbeats 40000000 in
theorem own_rm0 (l : Launch) (Z : State) (a0 : Array Value) (hw : ∀ d ∈ tables_1, d.before a0 Z = true) (ws : List Jvm.Cond) (p1 : Int32) (p2 : Int32) (p3 : Int32) (p4 : Int32) (h0 : Heap) (n0 : Nat) (Z0 : n0 ≤ h0.size) :
    own_Met l Z x code maxLocals ret ws room_1 h0 #[(.int p1), (.int p2), (.int p3), (.int p4)] (own_Q0 Z p1 p2 p3 p4 h0 n0) 16 128 := by
  refine own_start (plainFor_of_name own_pn1) ?_
  intro p e s m below meth c s₁ X0 hx hZ hby hml hret hlk hown hnm e0
  have hown : s.vm.findClass "com/example/allotrope/allotrope/procure/ProcureScoresScorePinLaw" = some m.cls := hown
  have hml : c.maxLocals = 12 := hml
  have N0 := Fr.nil n0
  refine own_cast (own_ef0 m p1 p2 p3 p4) ?_
  refine own_s s₁ (mkF m 6 #[iv p1, iv p2, iv p3, iv p4, iv (p1 &&& (3 : Int32)), u_, u_, u_, u_, u_, u_, u_] [(.int p2)]) (fun _ k => XS.iloadN X0.here hx rfl (hb hby at_0) rfl  (XS.iconst X0.here hx rfl (hb hby at_1) (XS.iand X0.here hx rfl (hb hby at_2) rfl (XS.istore X0.here hx rfl (hb hby at_3) rfl (l' := #[iv p1, iv p2, iv p3, iv p4, iv (p1 &&& (3 : Int32)), u_, u_, u_, u_, u_, u_, u_]) rfl (XS.iloadN X0.here hx rfl (hb hby at_5) rfl  k))))) ?_
  refine own_s s₁ (mkF m 14 #[iv p1, iv p2, iv p3, iv p4, iv (p1 &&& (3 : Int32)), iv (p2 >>> ((12 : Int32) &&& 31)), u_, u_, u_, u_, u_, u_] [(.int 12), (.int p3)]) (fun _ k => XS.bipush X0.here hx rfl (hb hby at_6) (XS.ishr X0.here hx rfl (hb hby at_8) rfl (XS.istore X0.here hx rfl (hb hby at_9) rfl (l' := #[iv p1, iv p2, iv p3, iv p4, iv (p1 &&& (3 : Int32)), iv (p2 >>> ((12 : Int32) &&& 31)), u_, u_, u_, u_, u_, u_]) rfl (XS.iloadN X0.here hx rfl (hb hby at_11) rfl  (XS.bipush X0.here hx rfl (hb hby at_12) k))))) ?_
  refine own_s s₁ (mkF m 21 #[iv p1, iv p2, iv p3, iv p4, iv (p1 &&& (3 : Int32)), iv (p2 >>> ((12 : Int32) &&& 31)), iv (p3 >>> ((12 : Int32) &&& 31)), u_, u_, u_, u_, u_] [(.int (p4 >>> ((12 : Int32) &&& 31)))]) (fun _ k => XS.ishr X0.here hx rfl (hb hby at_14) rfl (XS.istore X0.here hx rfl (hb hby at_15) rfl (l' := #[iv p1, iv p2, iv p3, iv p4, iv (p1 &&& (3 : Int32)), iv (p2 >>> ((12 : Int32) &&& 31)), iv (p3 >>> ((12 : Int32) &&& 31)), u_, u_, u_, u_, u_]) rfl (XS.iloadN X0.here hx rfl (hb hby at_17) rfl  (XS.bipush X0.here hx rfl (hb hby at_18) (XS.ishr X0.here hx rfl (hb hby at_20) rfl k))))) ?_
  refine own_s s₁ (mkF m 25 #[iv p1, iv p2, iv p3, iv p4, iv (p1 &&& (3 : Int32)), iv (p2 >>> ((12 : Int32) &&& 31)), iv (p3 >>> ((12 : Int32) &&& 31)), iv (p4 >>> ((12 : Int32) &&& 31)), u_, u_, u_, u_] [(.int (p1 &&& (3 : Int32)))]) (fun _ k => XS.istore X0.here hx rfl (hb hby at_21) rfl (l' := #[iv p1, iv p2, iv p3, iv p4, iv (p1 &&& (3 : Int32)), iv (p2 >>> ((12 : Int32) &&& 31)), iv (p3 >>> ((12 : Int32) &&& 31)), iv (p4 >>> ((12 : Int32) &&& 31)), u_, u_, u_, u_]) rfl (XS.iload X0.here hx rfl (hb hby at_23) rfl  k)) ?_
  by_cases c25 : (p1 &&& (3 : Int32)) = (0 : Int32)
  · refine own_s s₁ (mkF m 29 #[iv p1, iv p2, iv p3, iv p4, iv (p1 &&& (3 : Int32)), iv (p2 >>> ((12 : Int32) &&& 31)), iv (p3 >>> ((12 : Int32) &&& 31)), iv (p4 >>> ((12 : Int32) &&& 31)), u_, u_, u_, u_] [(.int 0)]) (fun _ k => XS.ifNo X0.here hx rfl (hb hby at_25) rfl ((if0 _ _).trans (teq c25).2) (XS.iconst X0.here hx rfl (hb hby at_28) k)) ?_
    obtain ⟨T1, h1, k1, X1, e1, E1, A1, st1⟩ := newP X0 hx hZ (own_h hw 0 rfl) e0 (g := (mkF m 29 #[iv p1, iv p2, iv p3, iv p4, iv (p1 &&& (3 : Int32)), iv (p2 >>> ((12 : Int32) &&& 31)), iv (p3 >>> ((12 : Int32) &&& 31)), iv (p4 >>> ((12 : Int32) &&& 31)), u_, u_, u_, u_] [(.int 0)])) rfl (hb hby at_29) rfl (by decide) (cap := 0) (by decide) (by decide) (by decide) (by decide)
    obtain ⟨b1, g1⟩ : ∃ z, z = h0.size := ⟨_, rfl⟩
    have g_b1 : n0 ≤ b1 := Nat.le_trans Z0 (Nat.le_of_eq g1.symm)
    have sz_b1 : h0.size ≤ b1 := Nat.le_trans (Keep.refl h0 []).1 (Nat.le_of_eq g1.symm)
    rw [← g1] at A1 st1
    have K1 : Keep h0 h1 [] := (Keep.refl h0 []).ext E1
    have Z1 := Nat.le_trans Z0 E1.1
    have f1 : Arv Z h1 b1 k1 .double (0 : Int32) [] (.double (FP.l2d 0)) := (Arv.newD A1 (by decide)).pad (pad_rep [] (.double (FP.l2d 0)) 0)
    refine own_s T1 (mkF m 31 #[iv p1, iv p2, iv p3, iv p4, iv (p1 &&& (3 : Int32)), iv (p2 >>> ((12 : Int32) &&& 31)), iv (p3 >>> ((12 : Int32) &&& 31)), iv (p4 >>> ((12 : Int32) &&& 31)), u_, u_, u_, u_] [(.ref b1)]) st1 ?_
    refine own_s T1 (mkF m 141 #[iv p1, iv p2, iv p3, iv p4, iv (p1 &&& (3 : Int32)), iv (p2 >>> ((12 : Int32) &&& 31)), iv (p3 >>> ((12 : Int32) &&& 31)), iv (p4 >>> ((12 : Int32) &&& 31)), rv b1, .val (.long 0), v_, u_] []) (fun _ k => XS.astore X1.here hx rfl (hb hby at_31) rfl rfl (l' := #[iv p1, iv p2, iv p3, iv p4, iv (p1 &&& (3 : Int32)), iv (p2 >>> ((12 : Int32) &&& 31)), iv (p3 >>> ((12 : Int32) &&& 31)), iv (p4 >>> ((12 : Int32) &&& 31)), rv b1, u_, u_, u_]) rfl (XS.lconst X1.here hx rfl (hb hby at_33) (XS.lstore X1.here hx rfl (hb hby at_34) rfl (l' := #[iv p1, iv p2, iv p3, iv p4, iv (p1 &&& (3 : Int32)), iv (p2 >>> ((12 : Int32) &&& 31)), iv (p3 >>> ((12 : Int32) &&& 31)), iv (p4 >>> ((12 : Int32) &&& 31)), rv b1, .val (.long 0), v_, u_]) rfl (XS.goto X1.here hx rfl (pc0 := 36) (pc' := 141) rfl (hb hby at_36) (by decide) (by decide) k)))) ?_
    obtain ⟨T2, h2, X2, e2, E2, A2, D2, -, st2⟩ := newO X1 hx hZ hown (own_h hw 1 rfl) (own_h hw 2 rfl) (own_h hw 3 rfl) e1 (g := (mkF m 141 #[iv p1, iv p2, iv p3, iv p4, iv (p1 &&& (3 : Int32)), iv (p2 >>> ((12 : Int32) &&& 31)), iv (p3 >>> ((12 : Int32) &&& 31)), iv (p4 >>> ((12 : Int32) &&& 31)), rv b1, .val (.long 0), v_, u_] [])) rfl (hb hby at_141) (by decide) (by decide)
    obtain ⟨b2, g2⟩ : ∃ z, z = h1.size := ⟨_, rfl⟩
    have ne_b1_b2 : b1 ≠ b2 := Nat.ne_of_lt (Nat.lt_of_lt_of_le f1.lt (Nat.le_of_eq g2.symm))
    have g_b2 : n0 ≤ b2 := Nat.le_trans Z1 (Nat.le_of_eq g2.symm)
    have sz_b2 : h0.size ≤ b2 := Nat.le_trans K1.1 (Nat.le_of_eq g2.symm)
    rw [← g2] at A2 D2 st2
    have f3 := f1.ext E2
    have K2 : Keep h0 h2 [] := K1.ext E2
    have Z2 := Nat.le_trans Z1 E2.1
    have f4 : Fld Z h2 b2 "com/example/allotrope/allotrope/procure/ProcureScores" "projectScores" "[D" .null := D2 (Or.inr (own_h hw 11 rfl)) (ty := (.array .double)) (by decide)
    refine own_s T2 (mkF m 144 #[iv p1, iv p2, iv p3, iv p4, iv (p1 &&& (3 : Int32)), iv (p2 >>> ((12 : Int32) &&& 31)), iv (p3 >>> ((12 : Int32) &&& 31)), iv (p4 >>> ((12 : Int32) &&& 31)), rv b1, .val (.long 0), v_, u_] [(.ref b2)]) st2 ?_
    refine own_s T2 (mkF m 147 #[iv p1, iv p2, iv p3, iv p4, iv (p1 &&& (3 : Int32)), iv (p2 >>> ((12 : Int32) &&& 31)), iv (p3 >>> ((12 : Int32) &&& 31)), iv (p4 >>> ((12 : Int32) &&& 31)), rv b1, .val (.long 0), v_, u_] [(.ref b1), (.ref b2), (.ref b2)]) (fun _ k => XS.dup X2.here hx rfl (hb hby at_144) rfl rfl (XS.aload X2.here hx rfl (hb hby at_145) rfl rfl k)) ?_
    obtain ⟨v5, T5, L5, X5, hQ5, st5⟩ := own_callI X2 hx hZ (y := own_y0) (W := 1) (a := b2) rfl hown (own_h hw 4 rfl) (own_h hw 5 rfl) (own_h hw 3 rfl) (own_h hw 6 rfl) (by decide) (own_rmini l Z a0 hw [] b2 b1 h2 n0 Z2 g_b2 A2 f4) (by decide) (by decide) (g := (mkF m 147 #[iv p1, iv p2, iv p3, iv p4, iv (p1 &&& (3 : Int32)), iv (p2 >>> ((12 : Int32) &&& 31)), iv (p3 >>> ((12 : Int32) &&& 31)), iv (p4 >>> ((12 : Int32) &&& 31)), rv b1, .val (.long 0), v_, u_] [(.ref b1), (.ref b2), (.ref b2)])) rfl (by rw [hml]; rfl) (argsL := [(.ref b1)]) (rest := [(.ref b2)]) rfl (lenOf own_pd0 rfl) rfl (by show 2 * 0 + _ ≤ _; exact Nat.le_of_eq rfl) (hb hby at_147) e2 (by decide) (by decide)
    obtain ⟨rfl, Nq5, Kq5, Eq5, Fq5⟩ := hQ5
    have N5 := Fr.app N0 Nq5
    have f6 := f3.keep Kq5 (ninS ne_b1_b2 nin0)
    have Z5 := Nat.le_trans Z2 Kq5.1
    refine own_s T5 (mkF m 150 #[iv p1, iv p2, iv p3, iv p4, iv (p1 &&& (3 : Int32)), iv (p2 >>> ((12 : Int32) &&& 31)), iv (p3 >>> ((12 : Int32) &&& 31)), iv (p4 >>> ((12 : Int32) &&& 31)), rv b1, .val (.long 0), v_, u_] [(.ref b2)]) st5 ?_
    refine own_s T5 (mkF m 154 #[iv p1, iv p2, iv p3, iv p4, iv (p1 &&& (3 : Int32)), iv (p2 >>> ((12 : Int32) &&& 31)), iv (p3 >>> ((12 : Int32) &&& 31)), iv (p4 >>> ((12 : Int32) &&& 31)), rv b1, .val (.long 0), v_, rv b2] [(.ref b2)]) (fun _ k => XS.astore X5.here hx rfl (hb hby at_150) rfl rfl (l' := #[iv p1, iv p2, iv p3, iv p4, iv (p1 &&& (3 : Int32)), iv (p2 >>> ((12 : Int32) &&& 31)), iv (p3 >>> ((12 : Int32) &&& 31)), iv (p4 >>> ((12 : Int32) &&& 31)), rv b1, .val (.long 0), v_, rv b2]) rfl (XS.aload X5.here hx rfl (hb hby at_152) rfl rfl k)) ?_
    obtain ⟨v7, T7, L7, X7, hQ7, st7⟩ := own_callV X5 hx hZ (y := own_y1) (z := own_y1) (W := 0) (a := b2) hown (own_h hw 12 rfl) (own_h hw 13 rfl) (notFace_of_selects (args := #[]) (mvT hZ (own_h hw 15 rfl))) (own_h hw 15 rfl) (own_h hw 14 rfl) (own_h hw 3 rfl) (own_h hw 16 rfl) (by decide) (own_rmsc0 l Z a0 hw [] b2 b1 k1 T5.heap n0 Z5 Fq5 f6) (by decide) (by decide) Eq5 (g := (mkF m 154 #[iv p1, iv p2, iv p3, iv p4, iv (p1 &&& (3 : Int32)), iv (p2 >>> ((12 : Int32) &&& 31)), iv (p3 >>> ((12 : Int32) &&& 31)), iv (p4 >>> ((12 : Int32) &&& 31)), rv b1, .val (.long 0), v_, rv b2] [(.ref b2)])) rfl (by rw [hml]; rfl) (argsL := []) (rest := []) rfl (lenOf own_pd1 rfl) rfl (by show 2 * 0 + _ ≤ _; exact Nat.le_of_eq rfl) (hb hby at_154) rfl (by decide) (by decide)
    obtain ⟨rfl, Nq7, e7⟩ := hQ7
    have N7 := Fr.app N5 Nq7
    have mr7 : own_Mg 0 (0 : Int64) := own_mg0
    refine own_s T7 (mkF m 157 #[iv p1, iv p2, iv p3, iv p4, iv (p1 &&& (3 : Int32)), iv (p2 >>> ((12 : Int32) &&& 31)), iv (p3 >>> ((12 : Int32) &&& 31)), iv (p4 >>> ((12 : Int32) &&& 31)), rv b1, .val (.long 0), v_, rv b2] [(.double (FP.l2d (0 : Int64)))]) st7 ?_
    refine own_s T7 (mkF m 159 #[iv p1, iv p2, iv p3, iv p4, iv (p1 &&& (3 : Int32)), iv (p2 >>> ((12 : Int32) &&& 31)), iv (p3 >>> ((12 : Int32) &&& 31)), iv (p4 >>> ((12 : Int32) &&& 31)), rv b1, .val (.long 0), v_, rv b2] [(.long 0), (.double (FP.l2d (0 : Int64)))]) (fun _ k => XS.lload X7.here hx rfl (hb hby at_157) rfl  k) ?_
    have mg8 : own_Mg 0 (0 : Int64) := own_mg0
    refine own_s T7 (mkF m 169 #[iv p1, iv p2, iv p3, iv p4, iv (p1 &&& (3 : Int32)), iv (p2 >>> ((12 : Int32) &&& 31)), iv (p3 >>> ((12 : Int32) &&& 31)), iv (p4 >>> ((12 : Int32) &&& 31)), rv b1, .val (.long 0), v_, rv b2] [(.int 1)]) (fun _ k => XS.l2dS X7.here hx rfl (hb hby at_159) rfl rfl (XS.dcmpS X7.here hx rfl (hb hby at_160) rfl (dcmpV_w (own_mgB mr7 (by decide)) (own_mgB mg8 (by decide)) _) (XS.ifNo X7.here hx rfl (hb hby at_161) rfl ((if0 _ _).trans (teq (own_lceq (by simp))).2) (XS.iconst X7.here hx rfl (hb hby at_164) (XS.goto X7.here hx rfl (pc0 := 165) (pc' := 169) rfl (hb hby at_165) (by decide) (by decide) k))))) ?_
    exact own_finZ X7 hx (t := .boolean) hret (by simp) (z' := (1 : Int32)) rfl (hb hby at_169) (own_end (Qv := (own_Q0 Z p1 p2 p3 p4 h0 n0)) X7 (own_some hret) hlk (by decide) (by decide) e7 ⟨rfl, N7⟩)
  · refine own_s s₁ (mkF m 42 #[iv p1, iv p2, iv p3, iv p4, iv (p1 &&& (3 : Int32)), iv (p2 >>> ((12 : Int32) &&& 31)), iv (p3 >>> ((12 : Int32) &&& 31)), iv (p4 >>> ((12 : Int32) &&& 31)), u_, u_, u_, u_] [(.int 1), (.int (p1 &&& (3 : Int32)))]) (fun _ k => XS.ifYes X0.here hx rfl (pc0 := 25) (pc' := 39) rfl (hb hby at_25) rfl ((if0 _ _).trans (feq c25).2) (by decide) (by decide) (XS.iload X0.here hx rfl (hb hby at_39) rfl  (XS.iconst X0.here hx rfl (hb hby at_41) k))) ?_
    by_cases c42 : (p1 &&& (3 : Int32)) = (1 : Int32)
    · refine own_s s₁ (mkF m 46 #[iv p1, iv p2, iv p3, iv p4, iv (p1 &&& (3 : Int32)), iv (p2 >>> ((12 : Int32) &&& 31)), iv (p3 >>> ((12 : Int32) &&& 31)), iv (p4 >>> ((12 : Int32) &&& 31)), u_, u_, u_, u_] [(.int 1)]) (fun _ k => XS.icmpNo X0.here hx rfl (hb hby at_42) rfl (teq c42).2 (XS.iconst X0.here hx rfl (hb hby at_45) k)) ?_
      obtain ⟨T9, h9, k9, X9, e9, E9, A9, st9⟩ := newP X0 hx hZ (own_h hw 0 rfl) e0 (g := (mkF m 46 #[iv p1, iv p2, iv p3, iv p4, iv (p1 &&& (3 : Int32)), iv (p2 >>> ((12 : Int32) &&& 31)), iv (p3 >>> ((12 : Int32) &&& 31)), iv (p4 >>> ((12 : Int32) &&& 31)), u_, u_, u_, u_] [(.int 1)])) rfl (hb hby at_46) rfl (by decide) (cap := 1) (by decide) (by decide) (by decide) (by decide)
      obtain ⟨b9, g9⟩ : ∃ z, z = h0.size := ⟨_, rfl⟩
      have g_b9 : n0 ≤ b9 := Nat.le_trans Z0 (Nat.le_of_eq g9.symm)
      have sz_b9 : h0.size ≤ b9 := Nat.le_trans (Keep.refl h0 []).1 (Nat.le_of_eq g9.symm)
      rw [← g9] at A9 st9
      have K9 : Keep h0 h9 [] := (Keep.refl h0 []).ext E9
      have Z9 := Nat.le_trans Z0 E9.1
      have f9 : Arv Z h9 b9 k9 .double (1 : Int32) [(.double (FP.l2d 0))] (.double (FP.l2d 0)) := (Arv.newD A9 (by decide)).pad (pad_rep [] (.double (FP.l2d 0)) 1)
      refine own_s T9 (mkF m 48 #[iv p1, iv p2, iv p3, iv p4, iv (p1 &&& (3 : Int32)), iv (p2 >>> ((12 : Int32) &&& 31)), iv (p3 >>> ((12 : Int32) &&& 31)), iv (p4 >>> ((12 : Int32) &&& 31)), u_, u_, u_, u_] [(.ref b9)]) st9 ?_
      refine own_s T9 (mkF m 55 #[iv p1, iv p2, iv p3, iv p4, iv (p1 &&& (3 : Int32)), iv (p2 >>> ((12 : Int32) &&& 31)), iv (p3 >>> ((12 : Int32) &&& 31)), iv (p4 >>> ((12 : Int32) &&& 31)), rv b9, u_, u_, u_] [(.int (p2 >>> ((12 : Int32) &&& 31))), (.int 0), (.ref b9)]) (fun _ k => XS.astore X9.here hx rfl (hb hby at_48) rfl rfl (l' := #[iv p1, iv p2, iv p3, iv p4, iv (p1 &&& (3 : Int32)), iv (p2 >>> ((12 : Int32) &&& 31)), iv (p3 >>> ((12 : Int32) &&& 31)), iv (p4 >>> ((12 : Int32) &&& 31)), rv b9, u_, u_, u_]) rfl (XS.aload X9.here hx rfl (hb hby at_50) rfl rfl (XS.iconst X9.here hx rfl (hb hby at_52) (XS.iload X9.here hx rfl (hb hby at_53) rfl  k)))) ?_
      have mg10 := (own_mgI (p2 >>> ((12 : Int32) &&& 31)))
      refine own_s T9 (mkF m 56 #[iv p1, iv p2, iv p3, iv p4, iv (p1 &&& (3 : Int32)), iv (p2 >>> ((12 : Int32) &&& 31)), iv (p3 >>> ((12 : Int32) &&& 31)), iv (p4 >>> ((12 : Int32) &&& 31)), rv b9, u_, u_, u_] [(.double (FP.l2d (p2 >>> ((12 : Int32) &&& 31)).toInt64)), (.int 0), (.ref b9)]) (fun _ k => XS.i2dS X9.here hx rfl (hb hby at_55) rfl (i2d_w _) k) ?_
      obtain ⟨cl11, Ar11, q11, S11, Nn11, H11, G11⟩ := id f9
      have hin11 : ¬ ((0 : Int32) < 0 ∨ cl11.slots.size ≤ ((0 : Int32)).toNatClampNeg) := (inb_of S11 ⟨by decide, by decide⟩)
      obtain ⟨T11, h11, X11, e11, W11, st11⟩ := stD X9 hx hZ e9 Ar11 (j := (0 : Int32)) hin11 (g := (mkF m 56 #[iv p1, iv p2, iv p3, iv p4, iv (p1 &&& (3 : Int32)), iv (p2 >>> ((12 : Int32) &&& 31)), iv (p3 >>> ((12 : Int32) &&& 31)), iv (p4 >>> ((12 : Int32) &&& 31)), rv b9, u_, u_, u_] [(.double (FP.l2d (p2 >>> ((12 : Int32) &&& 31)).toInt64)), (.int 0), (.ref b9)])) rfl rfl (hb hby at_56)
      have f11 : Arv Z h11 b9 k9 .double (1 : Int32) [(.double (FP.l2d (p2 >>> ((12 : Int32) &&& 31)).toInt64))] (.double (FP.l2d 0)) := Arv.set Ar11 q11 S11 Nn11 H11 G11 rfl W11 0 rfl (Nat.le_of_ble_eq_true rfl)
      have K11 : Keep h0 h11 [] := K9.wr W11 (Or.inr sz_b9)
      have Z11 := Nat.le_trans Z9 (Nat.le_of_eq W11.size.symm)
      have N11 := Fr.snoc X11 N0 g_b9
      refine own_s T11 (mkF m 57 #[iv p1, iv p2, iv p3, iv p4, iv (p1 &&& (3 : Int32)), iv (p2 >>> ((12 : Int32) &&& 31)), iv (p3 >>> ((12 : Int32) &&& 31)), iv (p4 >>> ((12 : Int32) &&& 31)), rv b9, u_, u_, u_] []) st11 ?_
      refine own_s T11 (mkF m 141 #[iv p1, iv p2, iv p3, iv p4, iv (p1 &&& (3 : Int32)), iv (p2 >>> ((12 : Int32) &&& 31)), iv (p3 >>> ((12 : Int32) &&& 31)), iv (p4 >>> ((12 : Int32) &&& 31)), rv b9, .val (.long ((p2 >>> ((12 : Int32) &&& 31)).toInt64)), v_, u_] []) (fun _ k => XS.iload X11.here hx rfl (hb hby at_57) rfl  (XS.i2l X11.here hx rfl (hb hby at_59) rfl (XS.lstore X11.here hx rfl (hb hby at_60) rfl (l' := #[iv p1, iv p2, iv p3, iv p4, iv (p1 &&& (3 : Int32)), iv (p2 >>> ((12 : Int32) &&& 31)), iv (p3 >>> ((12 : Int32) &&& 31)), iv (p4 >>> ((12 : Int32) &&& 31)), rv b9, .val (.long ((p2 >>> ((12 : Int32) &&& 31)).toInt64)), v_, u_]) rfl (XS.goto X11.here hx rfl (pc0 := 62) (pc' := 141) rfl (hb hby at_62) (by decide) (by decide) k)))) ?_
      obtain ⟨T12, h12, X12, e12, E12, A12, D12, -, st12⟩ := newO X11 hx hZ hown (own_h hw 1 rfl) (own_h hw 2 rfl) (own_h hw 3 rfl) e11 (g := (mkF m 141 #[iv p1, iv p2, iv p3, iv p4, iv (p1 &&& (3 : Int32)), iv (p2 >>> ((12 : Int32) &&& 31)), iv (p3 >>> ((12 : Int32) &&& 31)), iv (p4 >>> ((12 : Int32) &&& 31)), rv b9, .val (.long ((p2 >>> ((12 : Int32) &&& 31)).toInt64)), v_, u_] [])) rfl (hb hby at_141) (by decide) (by decide)
      obtain ⟨b12, g12⟩ : ∃ z, z = h11.size := ⟨_, rfl⟩
      have ne_b9_b12 : b9 ≠ b12 := Nat.ne_of_lt (Nat.lt_of_lt_of_le f11.lt (Nat.le_of_eq g12.symm))
      have g_b12 : n0 ≤ b12 := Nat.le_trans Z11 (Nat.le_of_eq g12.symm)
      have sz_b12 : h0.size ≤ b12 := Nat.le_trans K11.1 (Nat.le_of_eq g12.symm)
      rw [← g12] at A12 D12 st12
      have f13 := f11.ext E12
      have K12 : Keep h0 h12 [] := K11.ext E12
      have Z12 := Nat.le_trans Z11 E12.1
      have f14 : Fld Z h12 b12 "com/example/allotrope/allotrope/procure/ProcureScores" "projectScores" "[D" .null := D12 (Or.inr (own_h hw 11 rfl)) (ty := (.array .double)) (by decide)
      refine own_s T12 (mkF m 144 #[iv p1, iv p2, iv p3, iv p4, iv (p1 &&& (3 : Int32)), iv (p2 >>> ((12 : Int32) &&& 31)), iv (p3 >>> ((12 : Int32) &&& 31)), iv (p4 >>> ((12 : Int32) &&& 31)), rv b9, .val (.long ((p2 >>> ((12 : Int32) &&& 31)).toInt64)), v_, u_] [(.ref b12)]) st12 ?_
      refine own_s T12 (mkF m 147 #[iv p1, iv p2, iv p3, iv p4, iv (p1 &&& (3 : Int32)), iv (p2 >>> ((12 : Int32) &&& 31)), iv (p3 >>> ((12 : Int32) &&& 31)), iv (p4 >>> ((12 : Int32) &&& 31)), rv b9, .val (.long ((p2 >>> ((12 : Int32) &&& 31)).toInt64)), v_, u_] [(.ref b9), (.ref b12), (.ref b12)]) (fun _ k => XS.dup X12.here hx rfl (hb hby at_144) rfl rfl (XS.aload X12.here hx rfl (hb hby at_145) rfl rfl k)) ?_
      obtain ⟨v15, T15, L15, X15, hQ15, st15⟩ := own_callI X12 hx hZ (y := own_y0) (W := 1) (a := b12) rfl hown (own_h hw 4 rfl) (own_h hw 5 rfl) (own_h hw 3 rfl) (own_h hw 6 rfl) (by decide) (own_rmini l Z a0 hw [] b12 b9 h12 n0 Z12 g_b12 A12 f14) (by decide) (by decide) (g := (mkF m 147 #[iv p1, iv p2, iv p3, iv p4, iv (p1 &&& (3 : Int32)), iv (p2 >>> ((12 : Int32) &&& 31)), iv (p3 >>> ((12 : Int32) &&& 31)), iv (p4 >>> ((12 : Int32) &&& 31)), rv b9, .val (.long ((p2 >>> ((12 : Int32) &&& 31)).toInt64)), v_, u_] [(.ref b9), (.ref b12), (.ref b12)])) rfl (by rw [hml]; rfl) (argsL := [(.ref b9)]) (rest := [(.ref b12)]) rfl (lenOf own_pd0 rfl) rfl (by show 2 * 0 + _ ≤ _; exact Nat.le_of_eq rfl) (hb hby at_147) e12 (by decide) (by decide)
      obtain ⟨rfl, Nq15, Kq15, Eq15, Fq15⟩ := hQ15
      have N15 := Fr.app N11 Nq15
      have f16 := f13.keep Kq15 (ninS ne_b9_b12 nin0)
      have Z15 := Nat.le_trans Z12 Kq15.1
      refine own_s T15 (mkF m 150 #[iv p1, iv p2, iv p3, iv p4, iv (p1 &&& (3 : Int32)), iv (p2 >>> ((12 : Int32) &&& 31)), iv (p3 >>> ((12 : Int32) &&& 31)), iv (p4 >>> ((12 : Int32) &&& 31)), rv b9, .val (.long ((p2 >>> ((12 : Int32) &&& 31)).toInt64)), v_, u_] [(.ref b12)]) st15 ?_
      refine own_s T15 (mkF m 154 #[iv p1, iv p2, iv p3, iv p4, iv (p1 &&& (3 : Int32)), iv (p2 >>> ((12 : Int32) &&& 31)), iv (p3 >>> ((12 : Int32) &&& 31)), iv (p4 >>> ((12 : Int32) &&& 31)), rv b9, .val (.long ((p2 >>> ((12 : Int32) &&& 31)).toInt64)), v_, rv b12] [(.ref b12)]) (fun _ k => XS.astore X15.here hx rfl (hb hby at_150) rfl rfl (l' := #[iv p1, iv p2, iv p3, iv p4, iv (p1 &&& (3 : Int32)), iv (p2 >>> ((12 : Int32) &&& 31)), iv (p3 >>> ((12 : Int32) &&& 31)), iv (p4 >>> ((12 : Int32) &&& 31)), rv b9, .val (.long ((p2 >>> ((12 : Int32) &&& 31)).toInt64)), v_, rv b12]) rfl (XS.aload X15.here hx rfl (hb hby at_152) rfl rfl k)) ?_
      obtain ⟨v17, T17, L17, X17, hQ17, st17⟩ := own_callV X15 hx hZ (y := own_y1) (z := own_y1) (W := 0) (a := b12) hown (own_h hw 12 rfl) (own_h hw 13 rfl) (notFace_of_selects (args := #[]) (mvT hZ (own_h hw 15 rfl))) (own_h hw 15 rfl) (own_h hw 14 rfl) (own_h hw 3 rfl) (own_h hw 16 rfl) (by decide) (own_rmsc1 l Z a0 hw [] b12 b9 k9 (p2 >>> ((12 : Int32) &&& 31)).toInt64 T15.heap n0 Z15 Fq15 f16 mg10) (by decide) (by decide) Eq15 (g := (mkF m 154 #[iv p1, iv p2, iv p3, iv p4, iv (p1 &&& (3 : Int32)), iv (p2 >>> ((12 : Int32) &&& 31)), iv (p3 >>> ((12 : Int32) &&& 31)), iv (p4 >>> ((12 : Int32) &&& 31)), rv b9, .val (.long ((p2 >>> ((12 : Int32) &&& 31)).toInt64)), v_, rv b12] [(.ref b12)])) rfl (by rw [hml]; rfl) (argsL := []) (rest := []) rfl (lenOf own_pd1 rfl) rfl (by show 2 * 0 + _ ≤ _; exact Nat.le_of_eq rfl) (hb hby at_154) rfl (by decide) (by decide)
      obtain ⟨rfl, Nq17, e17⟩ := hQ17
      have N17 := Fr.app N15 Nq17
      have mr17 : own_Mg 2147483648 ((0 : Int64) + (p2 >>> ((12 : Int32) &&& 31)).toInt64) := (own_mgAdd own_mg0 mg10 (by decide))
      refine own_s T17 (mkF m 157 #[iv p1, iv p2, iv p3, iv p4, iv (p1 &&& (3 : Int32)), iv (p2 >>> ((12 : Int32) &&& 31)), iv (p3 >>> ((12 : Int32) &&& 31)), iv (p4 >>> ((12 : Int32) &&& 31)), rv b9, .val (.long ((p2 >>> ((12 : Int32) &&& 31)).toInt64)), v_, rv b12] [(.double (FP.l2d ((0 : Int64) + (p2 >>> ((12 : Int32) &&& 31)).toInt64)))]) st17 ?_
      refine own_s T17 (mkF m 159 #[iv p1, iv p2, iv p3, iv p4, iv (p1 &&& (3 : Int32)), iv (p2 >>> ((12 : Int32) &&& 31)), iv (p3 >>> ((12 : Int32) &&& 31)), iv (p4 >>> ((12 : Int32) &&& 31)), rv b9, .val (.long ((p2 >>> ((12 : Int32) &&& 31)).toInt64)), v_, rv b12] [(.long ((p2 >>> ((12 : Int32) &&& 31)).toInt64)), (.double (FP.l2d ((0 : Int64) + (p2 >>> ((12 : Int32) &&& 31)).toInt64)))]) (fun _ k => XS.lload X17.here hx rfl (hb hby at_157) rfl  k) ?_
      have mg18 : own_Mg 2147483648 ((p2 >>> ((12 : Int32) &&& 31)).toInt64) := mg10
      refine own_s T17 (mkF m 169 #[iv p1, iv p2, iv p3, iv p4, iv (p1 &&& (3 : Int32)), iv (p2 >>> ((12 : Int32) &&& 31)), iv (p3 >>> ((12 : Int32) &&& 31)), iv (p4 >>> ((12 : Int32) &&& 31)), rv b9, .val (.long ((p2 >>> ((12 : Int32) &&& 31)).toInt64)), v_, rv b12] [(.int 1)]) (fun _ k => XS.l2dS X17.here hx rfl (hb hby at_159) rfl rfl (XS.dcmpS X17.here hx rfl (hb hby at_160) rfl (dcmpV_w (own_mgB mr17 (by decide)) (own_mgB mg18 (by decide)) _) (XS.ifNo X17.here hx rfl (hb hby at_161) rfl ((if0 _ _).trans (teq (own_lceq (by simp))).2) (XS.iconst X17.here hx rfl (hb hby at_164) (XS.goto X17.here hx rfl (pc0 := 165) (pc' := 169) rfl (hb hby at_165) (by decide) (by decide) k))))) ?_
      exact own_finZ X17 hx (t := .boolean) hret (by simp) (z' := (1 : Int32)) rfl (hb hby at_169) (own_end (Qv := (own_Q0 Z p1 p2 p3 p4 h0 n0)) X17 (own_some hret) hlk (by decide) (by decide) e17 ⟨rfl, N17⟩)
    · refine own_s s₁ (mkF m 68 #[iv p1, iv p2, iv p3, iv p4, iv (p1 &&& (3 : Int32)), iv (p2 >>> ((12 : Int32) &&& 31)), iv (p3 >>> ((12 : Int32) &&& 31)), iv (p4 >>> ((12 : Int32) &&& 31)), u_, u_, u_, u_] [(.int 2), (.int (p1 &&& (3 : Int32)))]) (fun _ k => XS.icmpYes X0.here hx rfl (pc0 := 42) (pc' := 65) rfl (hb hby at_42) rfl (feq c42).2 (by decide) (by decide) (XS.iload X0.here hx rfl (hb hby at_65) rfl  (XS.iconst X0.here hx rfl (hb hby at_67) k))) ?_
      by_cases c68 : (p1 &&& (3 : Int32)) = (2 : Int32)
      · refine own_s s₁ (mkF m 72 #[iv p1, iv p2, iv p3, iv p4, iv (p1 &&& (3 : Int32)), iv (p2 >>> ((12 : Int32) &&& 31)), iv (p3 >>> ((12 : Int32) &&& 31)), iv (p4 >>> ((12 : Int32) &&& 31)), u_, u_, u_, u_] [(.int 2)]) (fun _ k => XS.icmpNo X0.here hx rfl (hb hby at_68) rfl (teq c68).2 (XS.iconst X0.here hx rfl (hb hby at_71) k)) ?_
        obtain ⟨T19, h19, k19, X19, e19, E19, A19, st19⟩ := newP X0 hx hZ (own_h hw 0 rfl) e0 (g := (mkF m 72 #[iv p1, iv p2, iv p3, iv p4, iv (p1 &&& (3 : Int32)), iv (p2 >>> ((12 : Int32) &&& 31)), iv (p3 >>> ((12 : Int32) &&& 31)), iv (p4 >>> ((12 : Int32) &&& 31)), u_, u_, u_, u_] [(.int 2)])) rfl (hb hby at_72) rfl (by decide) (cap := 2) (by decide) (by decide) (by decide) (by decide)
        obtain ⟨b19, g19⟩ : ∃ z, z = h0.size := ⟨_, rfl⟩
        have g_b19 : n0 ≤ b19 := Nat.le_trans Z0 (Nat.le_of_eq g19.symm)
        have sz_b19 : h0.size ≤ b19 := Nat.le_trans (Keep.refl h0 []).1 (Nat.le_of_eq g19.symm)
        rw [← g19] at A19 st19
        have K19 : Keep h0 h19 [] := (Keep.refl h0 []).ext E19
        have Z19 := Nat.le_trans Z0 E19.1
        have f19 : Arv Z h19 b19 k19 .double (2 : Int32) [(.double (FP.l2d 0)), (.double (FP.l2d 0))] (.double (FP.l2d 0)) := (Arv.newD A19 (by decide)).pad (pad_rep [] (.double (FP.l2d 0)) 2)
        refine own_s T19 (mkF m 74 #[iv p1, iv p2, iv p3, iv p4, iv (p1 &&& (3 : Int32)), iv (p2 >>> ((12 : Int32) &&& 31)), iv (p3 >>> ((12 : Int32) &&& 31)), iv (p4 >>> ((12 : Int32) &&& 31)), u_, u_, u_, u_] [(.ref b19)]) st19 ?_
        refine own_s T19 (mkF m 81 #[iv p1, iv p2, iv p3, iv p4, iv (p1 &&& (3 : Int32)), iv (p2 >>> ((12 : Int32) &&& 31)), iv (p3 >>> ((12 : Int32) &&& 31)), iv (p4 >>> ((12 : Int32) &&& 31)), rv b19, u_, u_, u_] [(.int (p2 >>> ((12 : Int32) &&& 31))), (.int 0), (.ref b19)]) (fun _ k => XS.astore X19.here hx rfl (hb hby at_74) rfl rfl (l' := #[iv p1, iv p2, iv p3, iv p4, iv (p1 &&& (3 : Int32)), iv (p2 >>> ((12 : Int32) &&& 31)), iv (p3 >>> ((12 : Int32) &&& 31)), iv (p4 >>> ((12 : Int32) &&& 31)), rv b19, u_, u_, u_]) rfl (XS.aload X19.here hx rfl (hb hby at_76) rfl rfl (XS.iconst X19.here hx rfl (hb hby at_78) (XS.iload X19.here hx rfl (hb hby at_79) rfl  k)))) ?_
        have mg20 := (own_mgI (p2 >>> ((12 : Int32) &&& 31)))
        refine own_s T19 (mkF m 82 #[iv p1, iv p2, iv p3, iv p4, iv (p1 &&& (3 : Int32)), iv (p2 >>> ((12 : Int32) &&& 31)), iv (p3 >>> ((12 : Int32) &&& 31)), iv (p4 >>> ((12 : Int32) &&& 31)), rv b19, u_, u_, u_] [(.double (FP.l2d (p2 >>> ((12 : Int32) &&& 31)).toInt64)), (.int 0), (.ref b19)]) (fun _ k => XS.i2dS X19.here hx rfl (hb hby at_81) rfl (i2d_w _) k) ?_
        obtain ⟨cl21, Ar21, q21, S21, Nn21, H21, G21⟩ := id f19
        have hin21 : ¬ ((0 : Int32) < 0 ∨ cl21.slots.size ≤ ((0 : Int32)).toNatClampNeg) := (inb_of S21 ⟨by decide, by decide⟩)
        obtain ⟨T21, h21, X21, e21, W21, st21⟩ := stD X19 hx hZ e19 Ar21 (j := (0 : Int32)) hin21 (g := (mkF m 82 #[iv p1, iv p2, iv p3, iv p4, iv (p1 &&& (3 : Int32)), iv (p2 >>> ((12 : Int32) &&& 31)), iv (p3 >>> ((12 : Int32) &&& 31)), iv (p4 >>> ((12 : Int32) &&& 31)), rv b19, u_, u_, u_] [(.double (FP.l2d (p2 >>> ((12 : Int32) &&& 31)).toInt64)), (.int 0), (.ref b19)])) rfl rfl (hb hby at_82)
        have f21 : Arv Z h21 b19 k19 .double (2 : Int32) [(.double (FP.l2d (p2 >>> ((12 : Int32) &&& 31)).toInt64)), (.double (FP.l2d 0))] (.double (FP.l2d 0)) := Arv.set Ar21 q21 S21 Nn21 H21 G21 rfl W21 0 rfl (Nat.le_of_ble_eq_true rfl)
        have K21 : Keep h0 h21 [] := K19.wr W21 (Or.inr sz_b19)
        have Z21 := Nat.le_trans Z19 (Nat.le_of_eq W21.size.symm)
        have N21 := Fr.snoc X21 N0 g_b19
        refine own_s T21 (mkF m 83 #[iv p1, iv p2, iv p3, iv p4, iv (p1 &&& (3 : Int32)), iv (p2 >>> ((12 : Int32) &&& 31)), iv (p3 >>> ((12 : Int32) &&& 31)), iv (p4 >>> ((12 : Int32) &&& 31)), rv b19, u_, u_, u_] []) st21 ?_
        refine own_s T21 (mkF m 88 #[iv p1, iv p2, iv p3, iv p4, iv (p1 &&& (3 : Int32)), iv (p2 >>> ((12 : Int32) &&& 31)), iv (p3 >>> ((12 : Int32) &&& 31)), iv (p4 >>> ((12 : Int32) &&& 31)), rv b19, u_, u_, u_] [(.int (p3 >>> ((12 : Int32) &&& 31))), (.int 1), (.ref b19)]) (fun _ k => XS.aload X21.here hx rfl (hb hby at_83) rfl rfl (XS.iconst X21.here hx rfl (hb hby at_85) (XS.iload X21.here hx rfl (hb hby at_86) rfl  k))) ?_
        have mg22 := (own_mgI (p3 >>> ((12 : Int32) &&& 31)))
        refine own_s T21 (mkF m 89 #[iv p1, iv p2, iv p3, iv p4, iv (p1 &&& (3 : Int32)), iv (p2 >>> ((12 : Int32) &&& 31)), iv (p3 >>> ((12 : Int32) &&& 31)), iv (p4 >>> ((12 : Int32) &&& 31)), rv b19, u_, u_, u_] [(.double (FP.l2d (p3 >>> ((12 : Int32) &&& 31)).toInt64)), (.int 1), (.ref b19)]) (fun _ k => XS.i2dS X21.here hx rfl (hb hby at_88) rfl (i2d_w _) k) ?_
        obtain ⟨cl23, Ar23, q23, S23, Nn23, H23, G23⟩ := id f21
        have hin23 : ¬ ((1 : Int32) < 0 ∨ cl23.slots.size ≤ ((1 : Int32)).toNatClampNeg) := (inb_of S23 ⟨by decide, by decide⟩)
        obtain ⟨T23, h23, X23, e23, W23, st23⟩ := stD X21 hx hZ e21 Ar23 (j := (1 : Int32)) hin23 (g := (mkF m 89 #[iv p1, iv p2, iv p3, iv p4, iv (p1 &&& (3 : Int32)), iv (p2 >>> ((12 : Int32) &&& 31)), iv (p3 >>> ((12 : Int32) &&& 31)), iv (p4 >>> ((12 : Int32) &&& 31)), rv b19, u_, u_, u_] [(.double (FP.l2d (p3 >>> ((12 : Int32) &&& 31)).toInt64)), (.int 1), (.ref b19)])) rfl rfl (hb hby at_89)
        have f23 : Arv Z h23 b19 k19 .double (2 : Int32) [(.double (FP.l2d (p2 >>> ((12 : Int32) &&& 31)).toInt64)), (.double (FP.l2d (p3 >>> ((12 : Int32) &&& 31)).toInt64))] (.double (FP.l2d 0)) := Arv.set Ar23 q23 S23 Nn23 H23 G23 rfl W23 1 rfl (Nat.le_of_ble_eq_true rfl)
        have K23 : Keep h0 h23 [] := K21.wr W23 (Or.inr sz_b19)
        have Z23 := Nat.le_trans Z21 (Nat.le_of_eq W23.size.symm)
        have N23 := Fr.snoc X23 N21 g_b19
        refine own_s T23 (mkF m 90 #[iv p1, iv p2, iv p3, iv p4, iv (p1 &&& (3 : Int32)), iv (p2 >>> ((12 : Int32) &&& 31)), iv (p3 >>> ((12 : Int32) &&& 31)), iv (p4 >>> ((12 : Int32) &&& 31)), rv b19, u_, u_, u_] []) st23 ?_
        refine own_s T23 (mkF m 97 #[iv p1, iv p2, iv p3, iv p4, iv (p1 &&& (3 : Int32)), iv (p2 >>> ((12 : Int32) &&& 31)), iv (p3 >>> ((12 : Int32) &&& 31)), iv (p4 >>> ((12 : Int32) &&& 31)), rv b19, u_, u_, u_] [(.long (((p2 >>> ((12 : Int32) &&& 31)).toInt64) + ((p3 >>> ((12 : Int32) &&& 31)).toInt64)))]) (fun _ k => XS.iload X23.here hx rfl (hb hby at_90) rfl  (XS.i2l X23.here hx rfl (hb hby at_92) rfl (XS.iload X23.here hx rfl (hb hby at_93) rfl  (XS.i2l X23.here hx rfl (hb hby at_95) rfl (XS.ladd X23.here hx rfl (hb hby at_96) rfl k))))) ?_
        refine own_s T23 (mkF m 141 #[iv p1, iv p2, iv p3, iv p4, iv (p1 &&& (3 : Int32)), iv (p2 >>> ((12 : Int32) &&& 31)), iv (p3 >>> ((12 : Int32) &&& 31)), iv (p4 >>> ((12 : Int32) &&& 31)), rv b19, .val (.long (((p2 >>> ((12 : Int32) &&& 31)).toInt64) + ((p3 >>> ((12 : Int32) &&& 31)).toInt64))), v_, u_] []) (fun _ k => XS.lstore X23.here hx rfl (hb hby at_97) rfl (l' := #[iv p1, iv p2, iv p3, iv p4, iv (p1 &&& (3 : Int32)), iv (p2 >>> ((12 : Int32) &&& 31)), iv (p3 >>> ((12 : Int32) &&& 31)), iv (p4 >>> ((12 : Int32) &&& 31)), rv b19, .val (.long (((p2 >>> ((12 : Int32) &&& 31)).toInt64) + ((p3 >>> ((12 : Int32) &&& 31)).toInt64))), v_, u_]) rfl (XS.goto X23.here hx rfl (pc0 := 99) (pc' := 141) rfl (hb hby at_99) (by decide) (by decide) k)) ?_
        obtain ⟨T24, h24, X24, e24, E24, A24, D24, -, st24⟩ := newO X23 hx hZ hown (own_h hw 1 rfl) (own_h hw 2 rfl) (own_h hw 3 rfl) e23 (g := (mkF m 141 #[iv p1, iv p2, iv p3, iv p4, iv (p1 &&& (3 : Int32)), iv (p2 >>> ((12 : Int32) &&& 31)), iv (p3 >>> ((12 : Int32) &&& 31)), iv (p4 >>> ((12 : Int32) &&& 31)), rv b19, .val (.long (((p2 >>> ((12 : Int32) &&& 31)).toInt64) + ((p3 >>> ((12 : Int32) &&& 31)).toInt64))), v_, u_] [])) rfl (hb hby at_141) (by decide) (by decide)
        obtain ⟨b24, g24⟩ : ∃ z, z = h23.size := ⟨_, rfl⟩
        have ne_b19_b24 : b19 ≠ b24 := Nat.ne_of_lt (Nat.lt_of_lt_of_le f23.lt (Nat.le_of_eq g24.symm))
        have g_b24 : n0 ≤ b24 := Nat.le_trans Z23 (Nat.le_of_eq g24.symm)
        have sz_b24 : h0.size ≤ b24 := Nat.le_trans K23.1 (Nat.le_of_eq g24.symm)
        rw [← g24] at A24 D24 st24
        have f25 := f23.ext E24
        have K24 : Keep h0 h24 [] := K23.ext E24
        have Z24 := Nat.le_trans Z23 E24.1
        have f26 : Fld Z h24 b24 "com/example/allotrope/allotrope/procure/ProcureScores" "projectScores" "[D" .null := D24 (Or.inr (own_h hw 11 rfl)) (ty := (.array .double)) (by decide)
        refine own_s T24 (mkF m 144 #[iv p1, iv p2, iv p3, iv p4, iv (p1 &&& (3 : Int32)), iv (p2 >>> ((12 : Int32) &&& 31)), iv (p3 >>> ((12 : Int32) &&& 31)), iv (p4 >>> ((12 : Int32) &&& 31)), rv b19, .val (.long (((p2 >>> ((12 : Int32) &&& 31)).toInt64) + ((p3 >>> ((12 : Int32) &&& 31)).toInt64))), v_, u_] [(.ref b24)]) st24 ?_
        refine own_s T24 (mkF m 147 #[iv p1, iv p2, iv p3, iv p4, iv (p1 &&& (3 : Int32)), iv (p2 >>> ((12 : Int32) &&& 31)), iv (p3 >>> ((12 : Int32) &&& 31)), iv (p4 >>> ((12 : Int32) &&& 31)), rv b19, .val (.long (((p2 >>> ((12 : Int32) &&& 31)).toInt64) + ((p3 >>> ((12 : Int32) &&& 31)).toInt64))), v_, u_] [(.ref b19), (.ref b24), (.ref b24)]) (fun _ k => XS.dup X24.here hx rfl (hb hby at_144) rfl rfl (XS.aload X24.here hx rfl (hb hby at_145) rfl rfl k)) ?_
        obtain ⟨v27, T27, L27, X27, hQ27, st27⟩ := own_callI X24 hx hZ (y := own_y0) (W := 1) (a := b24) rfl hown (own_h hw 4 rfl) (own_h hw 5 rfl) (own_h hw 3 rfl) (own_h hw 6 rfl) (by decide) (own_rmini l Z a0 hw [] b24 b19 h24 n0 Z24 g_b24 A24 f26) (by decide) (by decide) (g := (mkF m 147 #[iv p1, iv p2, iv p3, iv p4, iv (p1 &&& (3 : Int32)), iv (p2 >>> ((12 : Int32) &&& 31)), iv (p3 >>> ((12 : Int32) &&& 31)), iv (p4 >>> ((12 : Int32) &&& 31)), rv b19, .val (.long (((p2 >>> ((12 : Int32) &&& 31)).toInt64) + ((p3 >>> ((12 : Int32) &&& 31)).toInt64))), v_, u_] [(.ref b19), (.ref b24), (.ref b24)])) rfl (by rw [hml]; rfl) (argsL := [(.ref b19)]) (rest := [(.ref b24)]) rfl (lenOf own_pd0 rfl) rfl (by show 2 * 0 + _ ≤ _; exact Nat.le_of_eq rfl) (hb hby at_147) e24 (by decide) (by decide)
        obtain ⟨rfl, Nq27, Kq27, Eq27, Fq27⟩ := hQ27
        have N27 := Fr.app N23 Nq27
        have f28 := f25.keep Kq27 (ninS ne_b19_b24 nin0)
        have Z27 := Nat.le_trans Z24 Kq27.1
        refine own_s T27 (mkF m 150 #[iv p1, iv p2, iv p3, iv p4, iv (p1 &&& (3 : Int32)), iv (p2 >>> ((12 : Int32) &&& 31)), iv (p3 >>> ((12 : Int32) &&& 31)), iv (p4 >>> ((12 : Int32) &&& 31)), rv b19, .val (.long (((p2 >>> ((12 : Int32) &&& 31)).toInt64) + ((p3 >>> ((12 : Int32) &&& 31)).toInt64))), v_, u_] [(.ref b24)]) st27 ?_
        refine own_s T27 (mkF m 154 #[iv p1, iv p2, iv p3, iv p4, iv (p1 &&& (3 : Int32)), iv (p2 >>> ((12 : Int32) &&& 31)), iv (p3 >>> ((12 : Int32) &&& 31)), iv (p4 >>> ((12 : Int32) &&& 31)), rv b19, .val (.long (((p2 >>> ((12 : Int32) &&& 31)).toInt64) + ((p3 >>> ((12 : Int32) &&& 31)).toInt64))), v_, rv b24] [(.ref b24)]) (fun _ k => XS.astore X27.here hx rfl (hb hby at_150) rfl rfl (l' := #[iv p1, iv p2, iv p3, iv p4, iv (p1 &&& (3 : Int32)), iv (p2 >>> ((12 : Int32) &&& 31)), iv (p3 >>> ((12 : Int32) &&& 31)), iv (p4 >>> ((12 : Int32) &&& 31)), rv b19, .val (.long (((p2 >>> ((12 : Int32) &&& 31)).toInt64) + ((p3 >>> ((12 : Int32) &&& 31)).toInt64))), v_, rv b24]) rfl (XS.aload X27.here hx rfl (hb hby at_152) rfl rfl k)) ?_
        obtain ⟨v29, T29, L29, X29, hQ29, st29⟩ := own_callV X27 hx hZ (y := own_y1) (z := own_y1) (W := 0) (a := b24) hown (own_h hw 12 rfl) (own_h hw 13 rfl) (notFace_of_selects (args := #[]) (mvT hZ (own_h hw 15 rfl))) (own_h hw 15 rfl) (own_h hw 14 rfl) (own_h hw 3 rfl) (own_h hw 16 rfl) (by decide) (own_rmsc2 l Z a0 hw [] b24 b19 k19 (p2 >>> ((12 : Int32) &&& 31)).toInt64 (p3 >>> ((12 : Int32) &&& 31)).toInt64 T27.heap n0 Z27 Fq27 f28 mg20 mg22) (by decide) (by decide) Eq27 (g := (mkF m 154 #[iv p1, iv p2, iv p3, iv p4, iv (p1 &&& (3 : Int32)), iv (p2 >>> ((12 : Int32) &&& 31)), iv (p3 >>> ((12 : Int32) &&& 31)), iv (p4 >>> ((12 : Int32) &&& 31)), rv b19, .val (.long (((p2 >>> ((12 : Int32) &&& 31)).toInt64) + ((p3 >>> ((12 : Int32) &&& 31)).toInt64))), v_, rv b24] [(.ref b24)])) rfl (by rw [hml]; rfl) (argsL := []) (rest := []) rfl (lenOf own_pd1 rfl) rfl (by show 2 * 0 + _ ≤ _; exact Nat.le_of_eq rfl) (hb hby at_154) rfl (by decide) (by decide)
        obtain ⟨rfl, Nq29, e29⟩ := hQ29
        have N29 := Fr.app N27 Nq29
        have mr29 : own_Mg 4294967296 (((0 : Int64) + (p2 >>> ((12 : Int32) &&& 31)).toInt64) + (p3 >>> ((12 : Int32) &&& 31)).toInt64) := (own_mgAdd (own_mgAdd own_mg0 mg20 (by decide)) mg22 (by decide))
        refine own_s T29 (mkF m 157 #[iv p1, iv p2, iv p3, iv p4, iv (p1 &&& (3 : Int32)), iv (p2 >>> ((12 : Int32) &&& 31)), iv (p3 >>> ((12 : Int32) &&& 31)), iv (p4 >>> ((12 : Int32) &&& 31)), rv b19, .val (.long (((p2 >>> ((12 : Int32) &&& 31)).toInt64) + ((p3 >>> ((12 : Int32) &&& 31)).toInt64))), v_, rv b24] [(.double (FP.l2d (((0 : Int64) + (p2 >>> ((12 : Int32) &&& 31)).toInt64) + (p3 >>> ((12 : Int32) &&& 31)).toInt64)))]) st29 ?_
        refine own_s T29 (mkF m 159 #[iv p1, iv p2, iv p3, iv p4, iv (p1 &&& (3 : Int32)), iv (p2 >>> ((12 : Int32) &&& 31)), iv (p3 >>> ((12 : Int32) &&& 31)), iv (p4 >>> ((12 : Int32) &&& 31)), rv b19, .val (.long (((p2 >>> ((12 : Int32) &&& 31)).toInt64) + ((p3 >>> ((12 : Int32) &&& 31)).toInt64))), v_, rv b24] [(.long (((p2 >>> ((12 : Int32) &&& 31)).toInt64) + ((p3 >>> ((12 : Int32) &&& 31)).toInt64))), (.double (FP.l2d (((0 : Int64) + (p2 >>> ((12 : Int32) &&& 31)).toInt64) + (p3 >>> ((12 : Int32) &&& 31)).toInt64)))]) (fun _ k => XS.lload X29.here hx rfl (hb hby at_157) rfl  k) ?_
        have mg30 : own_Mg 4294967296 (((p2 >>> ((12 : Int32) &&& 31)).toInt64) + ((p3 >>> ((12 : Int32) &&& 31)).toInt64)) := (own_mgAdd mg20 mg22 (by decide))
        refine own_s T29 (mkF m 169 #[iv p1, iv p2, iv p3, iv p4, iv (p1 &&& (3 : Int32)), iv (p2 >>> ((12 : Int32) &&& 31)), iv (p3 >>> ((12 : Int32) &&& 31)), iv (p4 >>> ((12 : Int32) &&& 31)), rv b19, .val (.long (((p2 >>> ((12 : Int32) &&& 31)).toInt64) + ((p3 >>> ((12 : Int32) &&& 31)).toInt64))), v_, rv b24] [(.int 1)]) (fun _ k => XS.l2dS X29.here hx rfl (hb hby at_159) rfl rfl (XS.dcmpS X29.here hx rfl (hb hby at_160) rfl (dcmpV_w (own_mgB mr29 (by decide)) (own_mgB mg30 (by decide)) _) (XS.ifNo X29.here hx rfl (hb hby at_161) rfl ((if0 _ _).trans (teq (own_lceq (by simp))).2) (XS.iconst X29.here hx rfl (hb hby at_164) (XS.goto X29.here hx rfl (pc0 := 165) (pc' := 169) rfl (hb hby at_165) (by decide) (by decide) k))))) ?_
        exact own_finZ X29 hx (t := .boolean) hret (by simp) (z' := (1 : Int32)) rfl (hb hby at_169) (own_end (Qv := (own_Q0 Z p1 p2 p3 p4 h0 n0)) X29 (own_some hret) hlk (by decide) (by decide) e29 ⟨rfl, N29⟩)
      · refine own_s s₁ (mkF m 103 #[iv p1, iv p2, iv p3, iv p4, iv (p1 &&& (3 : Int32)), iv (p2 >>> ((12 : Int32) &&& 31)), iv (p3 >>> ((12 : Int32) &&& 31)), iv (p4 >>> ((12 : Int32) &&& 31)), u_, u_, u_, u_] [(.int 3)]) (fun _ k => XS.icmpYes X0.here hx rfl (pc0 := 68) (pc' := 102) rfl (hb hby at_68) rfl (feq c68).2 (by decide) (by decide) (XS.iconst X0.here hx rfl (hb hby at_102) k)) ?_
        obtain ⟨T31, h31, k31, X31, e31, E31, A31, st31⟩ := newP X0 hx hZ (own_h hw 0 rfl) e0 (g := (mkF m 103 #[iv p1, iv p2, iv p3, iv p4, iv (p1 &&& (3 : Int32)), iv (p2 >>> ((12 : Int32) &&& 31)), iv (p3 >>> ((12 : Int32) &&& 31)), iv (p4 >>> ((12 : Int32) &&& 31)), u_, u_, u_, u_] [(.int 3)])) rfl (hb hby at_103) rfl (by decide) (cap := 3) (by decide) (by decide) (by decide) (by decide)
        obtain ⟨b31, g31⟩ : ∃ z, z = h0.size := ⟨_, rfl⟩
        have g_b31 : n0 ≤ b31 := Nat.le_trans Z0 (Nat.le_of_eq g31.symm)
        have sz_b31 : h0.size ≤ b31 := Nat.le_trans (Keep.refl h0 []).1 (Nat.le_of_eq g31.symm)
        rw [← g31] at A31 st31
        have K31 : Keep h0 h31 [] := (Keep.refl h0 []).ext E31
        have Z31 := Nat.le_trans Z0 E31.1
        have f31 : Arv Z h31 b31 k31 .double (3 : Int32) [(.double (FP.l2d 0)), (.double (FP.l2d 0)), (.double (FP.l2d 0))] (.double (FP.l2d 0)) := (Arv.newD A31 (by decide)).pad (pad_rep [] (.double (FP.l2d 0)) 3)
        refine own_s T31 (mkF m 105 #[iv p1, iv p2, iv p3, iv p4, iv (p1 &&& (3 : Int32)), iv (p2 >>> ((12 : Int32) &&& 31)), iv (p3 >>> ((12 : Int32) &&& 31)), iv (p4 >>> ((12 : Int32) &&& 31)), u_, u_, u_, u_] [(.ref b31)]) st31 ?_
        refine own_s T31 (mkF m 112 #[iv p1, iv p2, iv p3, iv p4, iv (p1 &&& (3 : Int32)), iv (p2 >>> ((12 : Int32) &&& 31)), iv (p3 >>> ((12 : Int32) &&& 31)), iv (p4 >>> ((12 : Int32) &&& 31)), rv b31, u_, u_, u_] [(.int (p2 >>> ((12 : Int32) &&& 31))), (.int 0), (.ref b31)]) (fun _ k => XS.astore X31.here hx rfl (hb hby at_105) rfl rfl (l' := #[iv p1, iv p2, iv p3, iv p4, iv (p1 &&& (3 : Int32)), iv (p2 >>> ((12 : Int32) &&& 31)), iv (p3 >>> ((12 : Int32) &&& 31)), iv (p4 >>> ((12 : Int32) &&& 31)), rv b31, u_, u_, u_]) rfl (XS.aload X31.here hx rfl (hb hby at_107) rfl rfl (XS.iconst X31.here hx rfl (hb hby at_109) (XS.iload X31.here hx rfl (hb hby at_110) rfl  k)))) ?_
        have mg32 := (own_mgI (p2 >>> ((12 : Int32) &&& 31)))
        refine own_s T31 (mkF m 113 #[iv p1, iv p2, iv p3, iv p4, iv (p1 &&& (3 : Int32)), iv (p2 >>> ((12 : Int32) &&& 31)), iv (p3 >>> ((12 : Int32) &&& 31)), iv (p4 >>> ((12 : Int32) &&& 31)), rv b31, u_, u_, u_] [(.double (FP.l2d (p2 >>> ((12 : Int32) &&& 31)).toInt64)), (.int 0), (.ref b31)]) (fun _ k => XS.i2dS X31.here hx rfl (hb hby at_112) rfl (i2d_w _) k) ?_
        obtain ⟨cl33, Ar33, q33, S33, Nn33, H33, G33⟩ := id f31
        have hin33 : ¬ ((0 : Int32) < 0 ∨ cl33.slots.size ≤ ((0 : Int32)).toNatClampNeg) := (inb_of S33 ⟨by decide, by decide⟩)
        obtain ⟨T33, h33, X33, e33, W33, st33⟩ := stD X31 hx hZ e31 Ar33 (j := (0 : Int32)) hin33 (g := (mkF m 113 #[iv p1, iv p2, iv p3, iv p4, iv (p1 &&& (3 : Int32)), iv (p2 >>> ((12 : Int32) &&& 31)), iv (p3 >>> ((12 : Int32) &&& 31)), iv (p4 >>> ((12 : Int32) &&& 31)), rv b31, u_, u_, u_] [(.double (FP.l2d (p2 >>> ((12 : Int32) &&& 31)).toInt64)), (.int 0), (.ref b31)])) rfl rfl (hb hby at_113)
        have f33 : Arv Z h33 b31 k31 .double (3 : Int32) [(.double (FP.l2d (p2 >>> ((12 : Int32) &&& 31)).toInt64)), (.double (FP.l2d 0)), (.double (FP.l2d 0))] (.double (FP.l2d 0)) := Arv.set Ar33 q33 S33 Nn33 H33 G33 rfl W33 0 rfl (Nat.le_of_ble_eq_true rfl)
        have K33 : Keep h0 h33 [] := K31.wr W33 (Or.inr sz_b31)
        have Z33 := Nat.le_trans Z31 (Nat.le_of_eq W33.size.symm)
        have N33 := Fr.snoc X33 N0 g_b31
        refine own_s T33 (mkF m 114 #[iv p1, iv p2, iv p3, iv p4, iv (p1 &&& (3 : Int32)), iv (p2 >>> ((12 : Int32) &&& 31)), iv (p3 >>> ((12 : Int32) &&& 31)), iv (p4 >>> ((12 : Int32) &&& 31)), rv b31, u_, u_, u_] []) st33 ?_
        refine own_s T33 (mkF m 119 #[iv p1, iv p2, iv p3, iv p4, iv (p1 &&& (3 : Int32)), iv (p2 >>> ((12 : Int32) &&& 31)), iv (p3 >>> ((12 : Int32) &&& 31)), iv (p4 >>> ((12 : Int32) &&& 31)), rv b31, u_, u_, u_] [(.int (p3 >>> ((12 : Int32) &&& 31))), (.int 1), (.ref b31)]) (fun _ k => XS.aload X33.here hx rfl (hb hby at_114) rfl rfl (XS.iconst X33.here hx rfl (hb hby at_116) (XS.iload X33.here hx rfl (hb hby at_117) rfl  k))) ?_
        have mg34 := (own_mgI (p3 >>> ((12 : Int32) &&& 31)))
        refine own_s T33 (mkF m 120 #[iv p1, iv p2, iv p3, iv p4, iv (p1 &&& (3 : Int32)), iv (p2 >>> ((12 : Int32) &&& 31)), iv (p3 >>> ((12 : Int32) &&& 31)), iv (p4 >>> ((12 : Int32) &&& 31)), rv b31, u_, u_, u_] [(.double (FP.l2d (p3 >>> ((12 : Int32) &&& 31)).toInt64)), (.int 1), (.ref b31)]) (fun _ k => XS.i2dS X33.here hx rfl (hb hby at_119) rfl (i2d_w _) k) ?_
        obtain ⟨cl35, Ar35, q35, S35, Nn35, H35, G35⟩ := id f33
        have hin35 : ¬ ((1 : Int32) < 0 ∨ cl35.slots.size ≤ ((1 : Int32)).toNatClampNeg) := (inb_of S35 ⟨by decide, by decide⟩)
        obtain ⟨T35, h35, X35, e35, W35, st35⟩ := stD X33 hx hZ e33 Ar35 (j := (1 : Int32)) hin35 (g := (mkF m 120 #[iv p1, iv p2, iv p3, iv p4, iv (p1 &&& (3 : Int32)), iv (p2 >>> ((12 : Int32) &&& 31)), iv (p3 >>> ((12 : Int32) &&& 31)), iv (p4 >>> ((12 : Int32) &&& 31)), rv b31, u_, u_, u_] [(.double (FP.l2d (p3 >>> ((12 : Int32) &&& 31)).toInt64)), (.int 1), (.ref b31)])) rfl rfl (hb hby at_120)
        have f35 : Arv Z h35 b31 k31 .double (3 : Int32) [(.double (FP.l2d (p2 >>> ((12 : Int32) &&& 31)).toInt64)), (.double (FP.l2d (p3 >>> ((12 : Int32) &&& 31)).toInt64)), (.double (FP.l2d 0))] (.double (FP.l2d 0)) := Arv.set Ar35 q35 S35 Nn35 H35 G35 rfl W35 1 rfl (Nat.le_of_ble_eq_true rfl)
        have K35 : Keep h0 h35 [] := K33.wr W35 (Or.inr sz_b31)
        have Z35 := Nat.le_trans Z33 (Nat.le_of_eq W35.size.symm)
        have N35 := Fr.snoc X35 N33 g_b31
        refine own_s T35 (mkF m 121 #[iv p1, iv p2, iv p3, iv p4, iv (p1 &&& (3 : Int32)), iv (p2 >>> ((12 : Int32) &&& 31)), iv (p3 >>> ((12 : Int32) &&& 31)), iv (p4 >>> ((12 : Int32) &&& 31)), rv b31, u_, u_, u_] []) st35 ?_
        refine own_s T35 (mkF m 126 #[iv p1, iv p2, iv p3, iv p4, iv (p1 &&& (3 : Int32)), iv (p2 >>> ((12 : Int32) &&& 31)), iv (p3 >>> ((12 : Int32) &&& 31)), iv (p4 >>> ((12 : Int32) &&& 31)), rv b31, u_, u_, u_] [(.int (p4 >>> ((12 : Int32) &&& 31))), (.int 2), (.ref b31)]) (fun _ k => XS.aload X35.here hx rfl (hb hby at_121) rfl rfl (XS.iconst X35.here hx rfl (hb hby at_123) (XS.iload X35.here hx rfl (hb hby at_124) rfl  k))) ?_
        have mg36 := (own_mgI (p4 >>> ((12 : Int32) &&& 31)))
        refine own_s T35 (mkF m 127 #[iv p1, iv p2, iv p3, iv p4, iv (p1 &&& (3 : Int32)), iv (p2 >>> ((12 : Int32) &&& 31)), iv (p3 >>> ((12 : Int32) &&& 31)), iv (p4 >>> ((12 : Int32) &&& 31)), rv b31, u_, u_, u_] [(.double (FP.l2d (p4 >>> ((12 : Int32) &&& 31)).toInt64)), (.int 2), (.ref b31)]) (fun _ k => XS.i2dS X35.here hx rfl (hb hby at_126) rfl (i2d_w _) k) ?_
        obtain ⟨cl37, Ar37, q37, S37, Nn37, H37, G37⟩ := id f35
        have hin37 : ¬ ((2 : Int32) < 0 ∨ cl37.slots.size ≤ ((2 : Int32)).toNatClampNeg) := (inb_of S37 ⟨by decide, by decide⟩)
        obtain ⟨T37, h37, X37, e37, W37, st37⟩ := stD X35 hx hZ e35 Ar37 (j := (2 : Int32)) hin37 (g := (mkF m 127 #[iv p1, iv p2, iv p3, iv p4, iv (p1 &&& (3 : Int32)), iv (p2 >>> ((12 : Int32) &&& 31)), iv (p3 >>> ((12 : Int32) &&& 31)), iv (p4 >>> ((12 : Int32) &&& 31)), rv b31, u_, u_, u_] [(.double (FP.l2d (p4 >>> ((12 : Int32) &&& 31)).toInt64)), (.int 2), (.ref b31)])) rfl rfl (hb hby at_127)
        have f37 : Arv Z h37 b31 k31 .double (3 : Int32) [(.double (FP.l2d (p2 >>> ((12 : Int32) &&& 31)).toInt64)), (.double (FP.l2d (p3 >>> ((12 : Int32) &&& 31)).toInt64)), (.double (FP.l2d (p4 >>> ((12 : Int32) &&& 31)).toInt64))] (.double (FP.l2d 0)) := Arv.set Ar37 q37 S37 Nn37 H37 G37 rfl W37 2 rfl (Nat.le_of_ble_eq_true rfl)
        have K37 : Keep h0 h37 [] := K35.wr W37 (Or.inr sz_b31)
        have Z37 := Nat.le_trans Z35 (Nat.le_of_eq W37.size.symm)
        have N37 := Fr.snoc X37 N35 g_b31
        refine own_s T37 (mkF m 128 #[iv p1, iv p2, iv p3, iv p4, iv (p1 &&& (3 : Int32)), iv (p2 >>> ((12 : Int32) &&& 31)), iv (p3 >>> ((12 : Int32) &&& 31)), iv (p4 >>> ((12 : Int32) &&& 31)), rv b31, u_, u_, u_] []) st37 ?_
        refine own_s T37 (mkF m 135 #[iv p1, iv p2, iv p3, iv p4, iv (p1 &&& (3 : Int32)), iv (p2 >>> ((12 : Int32) &&& 31)), iv (p3 >>> ((12 : Int32) &&& 31)), iv (p4 >>> ((12 : Int32) &&& 31)), rv b31, u_, u_, u_] [(.long (((p2 >>> ((12 : Int32) &&& 31)).toInt64) + ((p3 >>> ((12 : Int32) &&& 31)).toInt64)))]) (fun _ k => XS.iload X37.here hx rfl (hb hby at_128) rfl  (XS.i2l X37.here hx rfl (hb hby at_130) rfl (XS.iload X37.here hx rfl (hb hby at_131) rfl  (XS.i2l X37.here hx rfl (hb hby at_133) rfl (XS.ladd X37.here hx rfl (hb hby at_134) rfl k))))) ?_
        refine own_s T37 (mkF m 141 #[iv p1, iv p2, iv p3, iv p4, iv (p1 &&& (3 : Int32)), iv (p2 >>> ((12 : Int32) &&& 31)), iv (p3 >>> ((12 : Int32) &&& 31)), iv (p4 >>> ((12 : Int32) &&& 31)), rv b31, .val (.long ((((p2 >>> ((12 : Int32) &&& 31)).toInt64) + ((p3 >>> ((12 : Int32) &&& 31)).toInt64)) + ((p4 >>> ((12 : Int32) &&& 31)).toInt64))), v_, u_] []) (fun _ k => XS.iload X37.here hx rfl (hb hby at_135) rfl  (XS.i2l X37.here hx rfl (hb hby at_137) rfl (XS.ladd X37.here hx rfl (hb hby at_138) rfl (XS.lstore X37.here hx rfl (hb hby at_139) rfl (l' := #[iv p1, iv p2, iv p3, iv p4, iv (p1 &&& (3 : Int32)), iv (p2 >>> ((12 : Int32) &&& 31)), iv (p3 >>> ((12 : Int32) &&& 31)), iv (p4 >>> ((12 : Int32) &&& 31)), rv b31, .val (.long ((((p2 >>> ((12 : Int32) &&& 31)).toInt64) + ((p3 >>> ((12 : Int32) &&& 31)).toInt64)) + ((p4 >>> ((12 : Int32) &&& 31)).toInt64))), v_, u_]) rfl k)))) ?_
        obtain ⟨T38, h38, X38, e38, E38, A38, D38, -, st38⟩ := newO X37 hx hZ hown (own_h hw 1 rfl) (own_h hw 2 rfl) (own_h hw 3 rfl) e37 (g := (mkF m 141 #[iv p1, iv p2, iv p3, iv p4, iv (p1 &&& (3 : Int32)), iv (p2 >>> ((12 : Int32) &&& 31)), iv (p3 >>> ((12 : Int32) &&& 31)), iv (p4 >>> ((12 : Int32) &&& 31)), rv b31, .val (.long ((((p2 >>> ((12 : Int32) &&& 31)).toInt64) + ((p3 >>> ((12 : Int32) &&& 31)).toInt64)) + ((p4 >>> ((12 : Int32) &&& 31)).toInt64))), v_, u_] [])) rfl (hb hby at_141) (by decide) (by decide)
        obtain ⟨b38, g38⟩ : ∃ z, z = h37.size := ⟨_, rfl⟩
        have ne_b31_b38 : b31 ≠ b38 := Nat.ne_of_lt (Nat.lt_of_lt_of_le f37.lt (Nat.le_of_eq g38.symm))
        have g_b38 : n0 ≤ b38 := Nat.le_trans Z37 (Nat.le_of_eq g38.symm)
        have sz_b38 : h0.size ≤ b38 := Nat.le_trans K37.1 (Nat.le_of_eq g38.symm)
        rw [← g38] at A38 D38 st38
        have f39 := f37.ext E38
        have K38 : Keep h0 h38 [] := K37.ext E38
        have Z38 := Nat.le_trans Z37 E38.1
        have f40 : Fld Z h38 b38 "com/example/allotrope/allotrope/procure/ProcureScores" "projectScores" "[D" .null := D38 (Or.inr (own_h hw 11 rfl)) (ty := (.array .double)) (by decide)
        refine own_s T38 (mkF m 144 #[iv p1, iv p2, iv p3, iv p4, iv (p1 &&& (3 : Int32)), iv (p2 >>> ((12 : Int32) &&& 31)), iv (p3 >>> ((12 : Int32) &&& 31)), iv (p4 >>> ((12 : Int32) &&& 31)), rv b31, .val (.long ((((p2 >>> ((12 : Int32) &&& 31)).toInt64) + ((p3 >>> ((12 : Int32) &&& 31)).toInt64)) + ((p4 >>> ((12 : Int32) &&& 31)).toInt64))), v_, u_] [(.ref b38)]) st38 ?_
        refine own_s T38 (mkF m 147 #[iv p1, iv p2, iv p3, iv p4, iv (p1 &&& (3 : Int32)), iv (p2 >>> ((12 : Int32) &&& 31)), iv (p3 >>> ((12 : Int32) &&& 31)), iv (p4 >>> ((12 : Int32) &&& 31)), rv b31, .val (.long ((((p2 >>> ((12 : Int32) &&& 31)).toInt64) + ((p3 >>> ((12 : Int32) &&& 31)).toInt64)) + ((p4 >>> ((12 : Int32) &&& 31)).toInt64))), v_, u_] [(.ref b31), (.ref b38), (.ref b38)]) (fun _ k => XS.dup X38.here hx rfl (hb hby at_144) rfl rfl (XS.aload X38.here hx rfl (hb hby at_145) rfl rfl k)) ?_
        obtain ⟨v41, T41, L41, X41, hQ41, st41⟩ := own_callI X38 hx hZ (y := own_y0) (W := 1) (a := b38) rfl hown (own_h hw 4 rfl) (own_h hw 5 rfl) (own_h hw 3 rfl) (own_h hw 6 rfl) (by decide) (own_rmini l Z a0 hw [] b38 b31 h38 n0 Z38 g_b38 A38 f40) (by decide) (by decide) (g := (mkF m 147 #[iv p1, iv p2, iv p3, iv p4, iv (p1 &&& (3 : Int32)), iv (p2 >>> ((12 : Int32) &&& 31)), iv (p3 >>> ((12 : Int32) &&& 31)), iv (p4 >>> ((12 : Int32) &&& 31)), rv b31, .val (.long ((((p2 >>> ((12 : Int32) &&& 31)).toInt64) + ((p3 >>> ((12 : Int32) &&& 31)).toInt64)) + ((p4 >>> ((12 : Int32) &&& 31)).toInt64))), v_, u_] [(.ref b31), (.ref b38), (.ref b38)])) rfl (by rw [hml]; rfl) (argsL := [(.ref b31)]) (rest := [(.ref b38)]) rfl (lenOf own_pd0 rfl) rfl (by show 2 * 0 + _ ≤ _; exact Nat.le_of_eq rfl) (hb hby at_147) e38 (by decide) (by decide)
        obtain ⟨rfl, Nq41, Kq41, Eq41, Fq41⟩ := hQ41
        have N41 := Fr.app N37 Nq41
        have f42 := f39.keep Kq41 (ninS ne_b31_b38 nin0)
        have Z41 := Nat.le_trans Z38 Kq41.1
        refine own_s T41 (mkF m 150 #[iv p1, iv p2, iv p3, iv p4, iv (p1 &&& (3 : Int32)), iv (p2 >>> ((12 : Int32) &&& 31)), iv (p3 >>> ((12 : Int32) &&& 31)), iv (p4 >>> ((12 : Int32) &&& 31)), rv b31, .val (.long ((((p2 >>> ((12 : Int32) &&& 31)).toInt64) + ((p3 >>> ((12 : Int32) &&& 31)).toInt64)) + ((p4 >>> ((12 : Int32) &&& 31)).toInt64))), v_, u_] [(.ref b38)]) st41 ?_
        refine own_s T41 (mkF m 154 #[iv p1, iv p2, iv p3, iv p4, iv (p1 &&& (3 : Int32)), iv (p2 >>> ((12 : Int32) &&& 31)), iv (p3 >>> ((12 : Int32) &&& 31)), iv (p4 >>> ((12 : Int32) &&& 31)), rv b31, .val (.long ((((p2 >>> ((12 : Int32) &&& 31)).toInt64) + ((p3 >>> ((12 : Int32) &&& 31)).toInt64)) + ((p4 >>> ((12 : Int32) &&& 31)).toInt64))), v_, rv b38] [(.ref b38)]) (fun _ k => XS.astore X41.here hx rfl (hb hby at_150) rfl rfl (l' := #[iv p1, iv p2, iv p3, iv p4, iv (p1 &&& (3 : Int32)), iv (p2 >>> ((12 : Int32) &&& 31)), iv (p3 >>> ((12 : Int32) &&& 31)), iv (p4 >>> ((12 : Int32) &&& 31)), rv b31, .val (.long ((((p2 >>> ((12 : Int32) &&& 31)).toInt64) + ((p3 >>> ((12 : Int32) &&& 31)).toInt64)) + ((p4 >>> ((12 : Int32) &&& 31)).toInt64))), v_, rv b38]) rfl (XS.aload X41.here hx rfl (hb hby at_152) rfl rfl k)) ?_
        obtain ⟨v43, T43, L43, X43, hQ43, st43⟩ := own_callV X41 hx hZ (y := own_y1) (z := own_y1) (W := 0) (a := b38) hown (own_h hw 12 rfl) (own_h hw 13 rfl) (notFace_of_selects (args := #[]) (mvT hZ (own_h hw 15 rfl))) (own_h hw 15 rfl) (own_h hw 14 rfl) (own_h hw 3 rfl) (own_h hw 16 rfl) (by decide) (own_rmsc3 l Z a0 hw [] b38 b31 k31 (p2 >>> ((12 : Int32) &&& 31)).toInt64 (p3 >>> ((12 : Int32) &&& 31)).toInt64 (p4 >>> ((12 : Int32) &&& 31)).toInt64 T41.heap n0 Z41 Fq41 f42 mg32 mg34 mg36) (by decide) (by decide) Eq41 (g := (mkF m 154 #[iv p1, iv p2, iv p3, iv p4, iv (p1 &&& (3 : Int32)), iv (p2 >>> ((12 : Int32) &&& 31)), iv (p3 >>> ((12 : Int32) &&& 31)), iv (p4 >>> ((12 : Int32) &&& 31)), rv b31, .val (.long ((((p2 >>> ((12 : Int32) &&& 31)).toInt64) + ((p3 >>> ((12 : Int32) &&& 31)).toInt64)) + ((p4 >>> ((12 : Int32) &&& 31)).toInt64))), v_, rv b38] [(.ref b38)])) rfl (by rw [hml]; rfl) (argsL := []) (rest := []) rfl (lenOf own_pd1 rfl) rfl (by show 2 * 0 + _ ≤ _; exact Nat.le_of_eq rfl) (hb hby at_154) rfl (by decide) (by decide)
        obtain ⟨rfl, Nq43, e43⟩ := hQ43
        have N43 := Fr.app N41 Nq43
        have mr43 : own_Mg 6442450944 ((((0 : Int64) + (p2 >>> ((12 : Int32) &&& 31)).toInt64) + (p3 >>> ((12 : Int32) &&& 31)).toInt64) + (p4 >>> ((12 : Int32) &&& 31)).toInt64) := (own_mgAdd (own_mgAdd (own_mgAdd own_mg0 mg32 (by decide)) mg34 (by decide)) mg36 (by decide))
        refine own_s T43 (mkF m 157 #[iv p1, iv p2, iv p3, iv p4, iv (p1 &&& (3 : Int32)), iv (p2 >>> ((12 : Int32) &&& 31)), iv (p3 >>> ((12 : Int32) &&& 31)), iv (p4 >>> ((12 : Int32) &&& 31)), rv b31, .val (.long ((((p2 >>> ((12 : Int32) &&& 31)).toInt64) + ((p3 >>> ((12 : Int32) &&& 31)).toInt64)) + ((p4 >>> ((12 : Int32) &&& 31)).toInt64))), v_, rv b38] [(.double (FP.l2d ((((0 : Int64) + (p2 >>> ((12 : Int32) &&& 31)).toInt64) + (p3 >>> ((12 : Int32) &&& 31)).toInt64) + (p4 >>> ((12 : Int32) &&& 31)).toInt64)))]) st43 ?_
        refine own_s T43 (mkF m 159 #[iv p1, iv p2, iv p3, iv p4, iv (p1 &&& (3 : Int32)), iv (p2 >>> ((12 : Int32) &&& 31)), iv (p3 >>> ((12 : Int32) &&& 31)), iv (p4 >>> ((12 : Int32) &&& 31)), rv b31, .val (.long ((((p2 >>> ((12 : Int32) &&& 31)).toInt64) + ((p3 >>> ((12 : Int32) &&& 31)).toInt64)) + ((p4 >>> ((12 : Int32) &&& 31)).toInt64))), v_, rv b38] [(.long ((((p2 >>> ((12 : Int32) &&& 31)).toInt64) + ((p3 >>> ((12 : Int32) &&& 31)).toInt64)) + ((p4 >>> ((12 : Int32) &&& 31)).toInt64))), (.double (FP.l2d ((((0 : Int64) + (p2 >>> ((12 : Int32) &&& 31)).toInt64) + (p3 >>> ((12 : Int32) &&& 31)).toInt64) + (p4 >>> ((12 : Int32) &&& 31)).toInt64)))]) (fun _ k => XS.lload X43.here hx rfl (hb hby at_157) rfl  k) ?_
        have mg44 : own_Mg 6442450944 ((((p2 >>> ((12 : Int32) &&& 31)).toInt64) + ((p3 >>> ((12 : Int32) &&& 31)).toInt64)) + ((p4 >>> ((12 : Int32) &&& 31)).toInt64)) := (own_mgAdd (own_mgAdd mg32 mg34 (by decide)) mg36 (by decide))
        refine own_s T43 (mkF m 169 #[iv p1, iv p2, iv p3, iv p4, iv (p1 &&& (3 : Int32)), iv (p2 >>> ((12 : Int32) &&& 31)), iv (p3 >>> ((12 : Int32) &&& 31)), iv (p4 >>> ((12 : Int32) &&& 31)), rv b31, .val (.long ((((p2 >>> ((12 : Int32) &&& 31)).toInt64) + ((p3 >>> ((12 : Int32) &&& 31)).toInt64)) + ((p4 >>> ((12 : Int32) &&& 31)).toInt64))), v_, rv b38] [(.int 1)]) (fun _ k => XS.l2dS X43.here hx rfl (hb hby at_159) rfl rfl (XS.dcmpS X43.here hx rfl (hb hby at_160) rfl (dcmpV_w (own_mgB mr43 (by decide)) (own_mgB mg44 (by decide)) _) (XS.ifNo X43.here hx rfl (hb hby at_161) rfl ((if0 _ _).trans (teq (own_lceq (by simp))).2) (XS.iconst X43.here hx rfl (hb hby at_164) (XS.goto X43.here hx rfl (pc0 := 165) (pc' := 169) rfl (hb hby at_165) (by decide) (by decide) k))))) ?_
        exact own_finZ X43 hx (t := .boolean) hret (by simp) (z' := (1 : Int32)) rfl (hb hby at_169) (own_end (Qv := (own_Q0 Z p1 p2 p3 p4 h0 n0)) X43 (own_some hret) hlk (by decide) (by decide) e43 ⟨rfl, N43⟩)
set_option maxRecDepth 65536 in
set_option maxHeartbeats 40000000 in
theorem comes_1 {Post : Tables → Env → Array Value → State → Outcome → State → Prop} (hpost : ∀ tb e args s v u, (limb_1_1.after args s (.returned v) u = true ∧ limb_1_2.after args s (.returned v) u = true ∧ True) → FrameEnd s (.returned v) u (Jvm.fieldLocs frame_1_writes args s ++ Jvm.arrayLocs frame_1_arrays args s ++ Jvm.staticLocs frame_1_statics s) 16 128 → Post tb e args s (.returned v) u) :
    ArmFor flags0 classFile x code maxLocals ret World_1 tables_1 room_1 Calls_1 rest_1 Pre_1 Post := by
  intro l hfl _ _ p e ha hc hk s m args below hf hA hF happ hP
  obtain ⟨hcalls, hrest, hpre⟩ := hP
  obtain ⟨-, -, -, hnamed, -, -, -, hat⟩ := (Spec.applies_iff hf).mp happ
  obtain ⟨hg, hn⟩ := and_e (Cond.before_iff.mp (show (Jvm.Cond.and given_1 narrow_1).before args s = true from hpre))
  obtain ⟨g1, g2⟩ := and_e hg
  obtain ⟨g3, g4⟩ := and_e g2
  obtain ⟨g5, g6⟩ := and_e g4
  obtain ⟨g7, g8⟩ := and_e g6
  obtain ⟨w0, w1, w2, w3, rfl⟩ : ∃ w0 w1 w2 w3 : Value, args = #[w0, w1, w2, w3] := by
    have hs : args.size = 4 := by simpa [Cond.value, given_1] using g1
    obtain ⟨L⟩ := args
    match L, hs with
    | [w0, w1, w2, w3], _ => exact ⟨w0, w1, w2, w3, rfl⟩
  have hw := fun d (hd : d ∈ tables_1) => atoms_spec (ws := Jvm.Cond.code x code maxLocals ret :: tables_1) hat d (List.mem_cons_of_mem _ hd)
  have hfit : Fit s := fun {y c} hc i hi => by
    obtain ⟨ha, rfl⟩ := Array.getElem?_eq_some_iff.mp hc
    have q := List.all_eq_true.mp ((Array.all_eq_true_iff_forall_mem.mp hF) _ (Array.getElem_mem ha)) i (List.mem_range.mpr hi)
    simpa [Array.getElem?_eq_getElem hi] using q
  obtain ⟨i0, ei0⟩ := is_v g3
  obtain rfl : w0 = (.int i0) := Option.some.inj ei0
  obtain ⟨i1, ei1⟩ := is_v g5
  obtain rfl : w1 = (.int i1) := Option.some.inj ei1
  obtain ⟨i2, ei2⟩ := is_v g7
  obtain rfl : w2 = (.int i2) := Option.some.inj ei2
  obtain ⟨i3, ei3⟩ := is_v g8
  obtain rfl : w3 = (.int i3) := Option.some.inj ei3
  obtain ⟨n, o, h1, h2, h3, _, L, rfl, ⟨rfl, N⟩, hq⟩ := own_rm0 l s _ hw tables_1 i0 i1 i2 i3 s.heap s.heap.size (Nat.le_refl _)  p e ha hc hk s m _ below hf ((Spec.applies_iff_loose hf).mp happ).1 ⟨rfl, State.Warmed39.refl s, rfl⟩ trivial
  refine ⟨n, _, h1, h2, h3, hpost _ _ _ _ _ _ ⟨Cond.after_iff.mpr rfl, Cond.after_iff.mpr (eq_i res_at (Term.int_eval (1)) rfl), trivial⟩ ⟨hq.1, hq.2.1, (hq.2.2.sift fun y hy => Or.inr (N y hy)).mono (by decide) (by decide)⟩⟩
theorem main_1_1 : Claimed_1_1 := comes_1 fun _ _ _ _ _ _ h hF => ⟨h.1, hF⟩
theorem main_1_2 : Claimed_1_2 := comes_1 fun _ _ _ _ _ _ h hF => ⟨h.2.1, hF⟩
end Jvm.Pilot.@@N@@
namespace Jvm.Pilot.@@N@@
open Jvm Jvm.ClassFile Sem Op Lib Jvm.Free Jvm.Stand Jvm.Pilot.@@N@@.Jvm.D
/-! MADE BY PROGRAM (witnessworld.py) out of the Statement's table words and the real class files: 9 classes; the members and pool entries that the words name. The judged class is class 1, her method 1. -/
namespace start1
open Jvm.ClassFile
def u (s : String) : CpInfo := .utf8 (stringToUtf16 s)
/-- a pool by its gaps: so many unusable entries, then the entry; so many at the end -/
def gap : Nat → List CpInfo → List CpInfo
  | 0, r => r
  | n + 1, r => .unusable :: gap n r
def poolList (es : List (Nat × CpInfo)) (last : Nat) : List CpInfo := es.foldr (fun e r => gap e.1 (e.2 :: r)) (gap last [])
def pool (es : List (Nat × CpInfo)) (last : Nat) : Array CpInfo := ⟨poolList es last⟩
def fileOf (pool : Array CpInfo) (this : Nat) (attrs : Array Attribute := #[]) (ms : Array MethodInfo := #[]) (fl : Nat := 33) (sup : Nat := 0) (ifs : Array Nat := #[]) (fds : Array FieldInfo := #[]) : ClassFile where
  minorVersion := 0
  majorVersion := 65
  constantPool := pool
  accessFlags := fl
  thisClass := this
  superClass := sup
  interfaces := ifs
  fields := fds
  methods := ms
  attributes := attrs
def plain (name : String) (sup : Option ClassId) : Class where
  name := name
  kind := .ordinary
  loader := none
  accessFlags := 33
  super := sup
  interfaces := #[]
  cf := none
  fields := #[]
  methods := #[]
  instanceTypes := #[]
  staticTypes := #[]
  resolved := #[]
  callSites := []
  init := .initialized
  statics := none
  mirror := none

def pool0 : Array CpInfo := pool [(5, u "<init>"), (0, u "()V"), (1, .class_ 10), (1, u "java/lang/Object")] 113

def k0c0 : Code := { maxStack := 0, maxLocals := 1, code := object_method_1_code, exceptionTable := #[], attributes := #[] }
def k0m0 : Method := { name := "<init>", desc := "()V", sig := { parameters := [], returnType := none }, accessFlags := 1, code := some k0c0 }
/-- java/lang/Object -/
def k0 : Class := { plain "java/lang/Object" none with
  accessFlags := 33
  interfaces := #[]
  cf := some (fileOf pool0 8 #[] #[{ accessFlags := 1, nameIndex := 5, descriptorIndex := 6, attributes := #[] }] 33 0 #[] #[])
  fields := #[]
  methods := #[k0m0]
  instanceTypes := #[]
  staticTypes := #[]
  resolved := Array.replicate 124 none
  statics := none }

def pool1 : Array CpInfo := pool [(2, .class_ 4), (1, u "java/lang/Object"), (0, u "<init>"), (0, u "()V"), (0, .class_ 8), (0, u "com/example/allotrope/allotrope/procure/ProcureScores"), (0, .methodref 7 10), (0, .nameAndType 5 11), (0, u "([D)V"), (0, .methodref 7 13), (0, .nameAndType 14 15), (0, u "score"), (0, u "()D"), (0, .class_ 17), (0, u "com/example/allotrope/allotrope/procure/ProcureScoresScorePinLaw"), (2, u "law"), (0, u "(IIII)Z")] 5

def k1m0 : Method := { name := "<init>", desc := "()V", sig := { parameters := [], returnType := none }, accessFlags := 1, code := none }
def k1c1 : Code := { maxStack := 4, maxLocals := 12, code := code, exceptionTable := #[], attributes := #[] }
def k1m1 : Method := { name := "law", desc := "(IIII)Z", sig := { parameters := [.int, .int, .int, .int], returnType := some .boolean }, accessFlags := 9, code := some k1c1 }
/-- com/example/allotrope/allotrope/procure/ProcureScoresScorePinLaw -/
def k1 : Class := { plain "com/example/allotrope/allotrope/procure/ProcureScoresScorePinLaw" (some 0) with
  accessFlags := 49
  interfaces := #[]
  cf := some (fileOf pool1 16 #[] #[{ accessFlags := 1, nameIndex := 5, descriptorIndex := 6, attributes := #[] }, { accessFlags := 9, nameIndex := 20, descriptorIndex := 21, attributes := #[] }] 49 2 #[] #[])
  fields := #[]
  methods := #[k1m0, k1m1]
  instanceTypes := #[]
  staticTypes := #[]
  resolved := Array.replicate 27 none
  statics := none }

def pool2 : Array CpInfo := pool [(1, .methodref 2 3), (0, .class_ 4), (0, .nameAndType 5 6), (0, u "java/lang/Object"), (0, u "<init>"), (0, u "()V"), (0, .fieldref 8 9), (0, .class_ 10), (0, .nameAndType 11 12), (0, u "com/example/allotrope/allotrope/procure/ProcureScores"), (0, u "projectScores"), (0, u "[D"), (2, u "score"), (0, u "()D"), (42, u "([D)V")] 28

def k2c0 : Code := { maxStack := 2, maxLocals := 2, code := prog_58_method_1_code, exceptionTable := #[], attributes := #[] }
def k2m0 : Method := { name := "<init>", desc := "([D)V", sig := { parameters := [(.array .double)], returnType := none }, accessFlags := 0, code := some k2c0 }
def k2c1 : Code := { maxStack := 4, maxLocals := 8, code := prog_58_method_2_code, exceptionTable := #[], attributes := #[] }
def k2m1 : Method := { name := "score", desc := "()D", sig := { parameters := [], returnType := some .double }, accessFlags := 1, code := some k2c1 }
/-- com/example/allotrope/allotrope/procure/ProcureScores -/
def k2 : Class := { plain "com/example/allotrope/allotrope/procure/ProcureScores" (some 0) with
  accessFlags := 33
  interfaces := #[]
  cf := some (fileOf pool2 8 #[] #[{ accessFlags := 0, nameIndex := 5, descriptorIndex := 59, attributes := #[] }, { accessFlags := 1, nameIndex := 15, descriptorIndex := 16, attributes := #[] }] 33 2 #[] #[{ accessFlags := 18, nameIndex := 11, descriptorIndex := 12, attributes := #[] }])
  fields := #[{ name := "projectScores", type := (.array .double), accessFlags := 18, slot := 0, constantValue := 0 }]
  methods := #[k2m0, k2m1]
  instanceTypes := #[(.array .double)]
  staticTypes := #[]
  resolved := Array.replicate 88 none
  statics := none }

def pool3 : Array CpInfo := pool [(1, u "java/lang/Cloneable"), (0, .class_ 1), (0, u "java/lang/Object"), (0, .class_ 3)] 3

/-- java/lang/Cloneable -/
def k3 : Class := { plain "java/lang/Cloneable" (some 0) with
  accessFlags := 1537
  interfaces := #[]
  cf := some (fileOf pool3 2 #[] #[] 1537 4 #[] #[])
  fields := #[]
  methods := #[]
  instanceTypes := #[]
  staticTypes := #[]
  resolved := Array.replicate 8 none
  statics := none }

def pool4 : Array CpInfo := pool [(1, u "java/io/Serializable"), (0, .class_ 1), (0, u "java/lang/Object"), (0, .class_ 3)] 3

/-- java/io/Serializable -/
def k4 : Class := { plain "java/io/Serializable" (some 0) with
  accessFlags := 1537
  interfaces := #[]
  cf := some (fileOf pool4 2 #[] #[] 1537 4 #[] #[])
  fields := #[]
  methods := #[]
  instanceTypes := #[]
  staticTypes := #[]
  resolved := Array.replicate 8 none
  statics := none }

/-- the primitive byte -/
def k5 : Class := { plain "byte" none with kind := .primitive 'B', accessFlags := 0x411 }
/-- [B -/
def k6 : Class := { plain "[B" (some 0) with kind := .array 5 .byte, interfaces := #[3, 4], accessFlags := 1041 }

/-- the primitive int -/
def k7 : Class := { plain "int" none with kind := .primitive 'I', accessFlags := 0x411 }
/-- [I -/
def k8 : Class := { plain "[I" (some 0) with kind := .array 7 .int, interfaces := #[3, 4], accessFlags := 1041 }

/-- the primitive double -/
def k9 : Class := { plain "double" none with kind := .primitive 'D', accessFlags := 0x411 }
/-- its arrays -/
def k10 : Class := { plain "[D" (some 0) with kind := .array 9 .double, interfaces := #[3, 4], accessFlags := 1041 }

def heap : Heap := #[]
def classes : Array Class := #[k0, k1, k2, k3, k4, k5, k6, k7, k8, k9, k10]
def interned : List (Array UInt16 × Addr) := []
def slotsUsed : Nat := 0
def theMethod : MethodId := ⟨1, 1⟩
def args0 : Array Value := #[.int 5, .int 7, .int 7, .int 7]
def aboutOver (below : List Frame) : State where
  vm := { classes := classes, interned := interned.toArray }
  heap := heap
  slotsUsed := slotsUsed
  threads := #[{ frames := .invoking theMethod args0 :: below }]
def below0 : List Frame := [.native { method := ⟨0, 0⟩, args := #[] }]
def about1 : State := aboutOver below0
def p0 : Program := .bare "" "" ""
def e0 : Env := launch0.env 0 0 0
theorem w_frames : about1.frames = Frame.invoking theMethod args0 :: below0 := rfl
set_option maxRecDepth 65536 in
theorem w_args : argsFit about1.vm theMethod args0 = true := by decide +kernel
set_option maxRecDepth 65536 in
theorem w_heap : heapFits about1 = true := by decide +kernel
set_option maxRecDepth 65536 in
theorem w_runnable : about1.curStatus? = some .runnable := by decide +kernel
set_option maxRecDepth 65536 in
theorem w_alone : about1.alone = true := by decide +kernel
set_option maxRecDepth 65536 in
theorem w_named : about1.methodNamed? x = some theMethod := by decide +kernel
set_option maxRecDepth 65536 in
theorem w_hears : about1.hears theMethod below0 = true := by decide +kernel
set_option maxRecDepth 65536 in
theorem w_ripe : about1.ripe theMethod args0 below0 = true := by decide +kernel
theorem w_running : about1.status = .running := rfl
set_option maxRecDepth 65536 in
theorem w_room : about1.hasRoom e0.platform room_1 = true :=
  launch0.hasRoom_least _ room_1 (by decide +kernel) (by decide +kernel) (by decide +kernel) (by decide +kernel) (by decide +kernel) (by decide +kernel)
theorem allAtoms_all (ts : List Jvm.Cond) (a : Array Jvm.Value) (st : Jvm.State) : (allAtoms ts).before a st = ts.all (fun c => c.before a st) := by
  induction ts with
  | nil => rfl
  | cons c t ih =>
    show (Jvm.Cond.and c (allAtoms t)).before a st = _
    rw [Jvm.Cond.before_and, ih, List.all_cons]
def words1 : List Jvm.Cond := Jvm.Cond.code x code maxLocals ret :: tables_1
/-- a 'code' word, met by the world's own term for the bytes: nothing is compared byte by byte -/
theorem code_word {y : MethodName} {bytes : ByteArray} {mx : Nat} {rt : Option FieldType} {a : Array Value} {s : State} {m : MethodId} {meth : Method} {c : Code} (h1 : s.methodNamed? y = some m) (h2 : s.vm.method? m = some meth) (h3 : meth.code = some c) (h4 : c.code = bytes)
    (h5 : (c.maxLocals == mx && c.exceptionTable.isEmpty && decide (c.maxStack ≤ mostOperands) && decide (meth.sig.returnType = rt) && !meth.locks && decide (parseMethodDescriptor y.desc = some meth.sig)) = true) : (Jvm.Cond.code y bytes mx rt).before a s = true := by
  simp only [Bool.and_eq_true, beq_iff_eq, Bool.not_eq_true', decide_eq_true_eq] at h5
  obtain ⟨⟨⟨⟨⟨g1, g2⟩, g3⟩, g4⟩, g5⟩, g6⟩ := h5
  simp [Cond.before, Cond.holds, Cond.value, h1, h2, h3, h4, g1, g2, g3, g4, g5, g6]
def isCode : Jvm.Cond → Bool
  | .code _ _ _ _ => true
  | _ => false
theorem all_split {L : List Jvm.Cond} {P : Jvm.Cond → Bool} (h1 : L.all (fun c => isCode c || P c) = true) (h2 : ∀ c ∈ L.filter isCode, P c = true) : L.all P = true := by
  refine List.all_eq_true.mpr fun c hc => ?_
  have h := List.all_eq_true.mp h1 c hc
  rcases Bool.eq_false_or_eq_true (isCode c) with hi | hi
  · exact h2 c (List.mem_filter.mpr ⟨hc, hi⟩)
  · simpa [hi] using h
set_option maxRecDepth 65536 in
theorem w_c0 : (Jvm.Cond.code x code maxLocals ret).before args0 about1 = true := code_word (m := ⟨1, 1⟩) (meth := k1m1) (c := k1c1) (by decide +kernel) rfl rfl rfl (by decide +kernel)
set_option maxRecDepth 65536 in
theorem w_c1 : (Jvm.Cond.code ({ cls := "com/example/allotrope/allotrope/procure/ProcureScores", name := "<init>", desc := "([D)V" } : Jvm.MethodName) prog_58_method_1_code (2 : Nat) (Option.none : Option Jvm.ClassFile.FieldType)).before args0 about1 = true := code_word (m := ⟨2, 0⟩) (meth := k2m0) (c := k2c0) (by decide +kernel) rfl rfl rfl (by decide +kernel)
set_option maxRecDepth 65536 in
theorem w_c2 : (Jvm.Cond.code ({ cls := "java/lang/Object", name := "<init>", desc := "()V" } : Jvm.MethodName) object_method_1_code (1 : Nat) (Option.none : Option Jvm.ClassFile.FieldType)).before args0 about1 = true := code_word (m := ⟨0, 0⟩) (meth := k0m0) (c := k0c0) (by decide +kernel) rfl rfl rfl (by decide +kernel)
set_option maxRecDepth 65536 in
theorem w_c3 : (Jvm.Cond.code ({ cls := "com/example/allotrope/allotrope/procure/ProcureScores", name := "score", desc := "()D" } : Jvm.MethodName) prog_58_method_2_code (8 : Nat) (Option.some Jvm.ClassFile.FieldType.double)).before args0 about1 = true := code_word (m := ⟨2, 1⟩) (meth := k2m1) (c := k2c1) (by decide +kernel) rfl rfl rfl (by decide +kernel)
def codes1 : List Jvm.Cond := [Jvm.Cond.code x code maxLocals ret, Jvm.Cond.code ({ cls := "com/example/allotrope/allotrope/procure/ProcureScores", name := "<init>", desc := "([D)V" } : Jvm.MethodName) prog_58_method_1_code (2 : Nat) (Option.none : Option Jvm.ClassFile.FieldType), Jvm.Cond.code ({ cls := "java/lang/Object", name := "<init>", desc := "()V" } : Jvm.MethodName) object_method_1_code (1 : Nat) (Option.none : Option Jvm.ClassFile.FieldType), Jvm.Cond.code ({ cls := "com/example/allotrope/allotrope/procure/ProcureScores", name := "score", desc := "()D" } : Jvm.MethodName) prog_58_method_2_code (8 : Nat) (Option.some Jvm.ClassFile.FieldType.double)]
set_option maxRecDepth 65536 in
theorem codes_eq : words1.filter isCode = codes1 := rfl
theorem w_codes : ∀ c ∈ words1.filter isCode, c.before args0 about1 = true := by
  rw [codes_eq]
  intro c hc
  simp only [codes1, List.mem_cons, List.not_mem_nil, or_false] at hc
  rcases hc with rfl | rfl | rfl | rfl
  · exact w_c0
  · exact w_c1
  · exact w_c2
  · exact w_c3
set_option maxRecDepth 65536 in
theorem w_t1 : words1.all (fun c => isCode c || c.before args0 about1) = true := by decide +kernel
theorem w_tables : (allAtoms (Jvm.Cond.code x code maxLocals ret :: tables_1)).before args0 about1 = true := by
  rw [allAtoms_all]
  show words1.all (fun c => c.before args0 about1) = true
  refine all_split ?_ w_codes
  rw [w_t1]
set_option maxRecDepth 65536 in
theorem w_case : (Jvm.Cond.and given_1 narrow_1).before args0 about1 = true := by decide +kernel
theorem w_applies : (headSpec (Jvm.Cond.code x code maxLocals ret :: tables_1) room_1).applies x e0.platform about1 = true :=
  (Spec.applies_iff w_frames).mpr ⟨w_running, w_runnable, w_alone, w_named, w_hears, w_ripe, w_room, w_tables⟩
theorem atStart : AtStart classFile x code maxLocals ret World_1 tables_1 room_1 Calls_1 rest_1 Pre_1 launch0 p0 e0 about1 theMethod args0 below0 :=
  ⟨lists_1, trivial, launch0.admits_env _ _ _, launch0.least_env, fairChoices_fair.cas, fairChoices_fair.clock, w_frames, w_args, w_heap, w_applies, trivial, trivial, w_case⟩
end start1
theorem witness_1 : WitnessClaimed_1 := ⟨start1.p0, start1.e0, start1.about1, start1.theMethod, start1.args0, start1.below0, start1.atStart⟩
end Jvm.Pilot.@@N@@
