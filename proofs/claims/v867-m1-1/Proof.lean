import JvmDerived
import JvmDerived.Pilot.@@N@@Statement
import JvmDerived.Pilot.@@N@@Code
set_option linter.unusedVariables false
set_option linter.unusedSimpArgs false
@@BLOCK:Masks.lean.txt@@
namespace Jvm.Pilot.@@N@@
open Jvm Jvm.ClassFile Sem Op Lib Jvm.Free Jvm.Stand Jvm.LawKit Jvm.RoadKit Bundle Jvm.Pilot.@@N@@.Jvm.D
section Own
variable {p : Program} {l : Launch} {e : Env} {R : Room} {s : State} {m : MethodId} {args : Array Value} {below : List Frame} {meth : Method} {c : Code} {T : State} {locs : List Loc} {cells slots : Nat} {Z : State} {a0 : Array Value} {h : Heap}
def own_Go (p : Program) (e : Env) (below : List Frame) (Q : Outcome → State → Prop) (T : State) (g : JFrame) : Prop := ∃ s₂ o, Steps p.tables e below (T.setTop g) s₂ ∧ s₂.status = .running ∧ Ended s₂ below o ∧ Q o s₂
theorem own_st {Q : Outcome → State → Prop} {T T' : State} {g g' : JFrame} (h : ∀ t, Steps p.tables e below (T'.setTop g') t → Steps p.tables e below (T.setTop g) t) (k : own_Go p e below Q T' g') : own_Go p e below Q T g := by
  obtain ⟨s₂, o, h1, h2⟩ := k
  exact ⟨s₂, o, h _ h1, h2⟩
theorem own_s {Q : Outcome → State → Prop} {T : State} {g : JFrame} (T' : State) (g' : JFrame) (h : ∀ t, Steps p.tables e below (T'.setTop g') t → Steps p.tables e below (T.setTop g) t) (k : own_Go p e below Q T' g') : own_Go p e below Q T g := own_st h k
abbrev u_ : Slot := .unset
abbrev v_ : Slot := .second
theorem own_cast {Q : Outcome → State → Prop} {T : State} {g g' : JFrame} (q : g = g') (k : own_Go p e below Q T g') : own_Go p e below Q T g := q ▸ k
def own_Post (Qv : Option Value → Heap → List Loc → Prop) (kc ks : Nat) (U : State) (o : Outcome) (U' : State) : Prop := ∃ v L, o = .returned v ∧ Qv v U'.heap L ∧ FrameEnd U o U' L kc ks
def own_Met (l : Launch) (Z : State) (y : MethodName) (bytes : ByteArray) (maxL : Nat) (ret : Option FieldType) (ws : List Jvm.Cond) (rm : Room) (h0 : Heap) (as' : Array Value) (Qv : Option Value → Heap → List Loc → Prop) (kc ks : Nat) : Prop :=
  MetFree l y (head1 (Jvm.Cond.code y bytes maxL ret :: ws) rm) (fun a U => a = as' ∧ Z.Warmed39 U.vm ∧ U.heap = h0) (fun _ _ _ _ _ => True) (fun _ U o U' => own_Post Qv kc ks U o U')
theorem own_start {y : MethodName} {bytes : ByteArray} {maxL : Nat} {ret : Option FieldType} {ws : List Jvm.Cond} {rm : Room} {h0 : Heap} {as' : Array Value} {Qv : Option Value → Heap → List Loc → Prop} {kc ks : Nat} (hpl : plainFor y = true)
    (body : ∀ (p : Program) (e : Env) (s : State) (m : MethodId) (below : List Frame) (meth : Method) (c : Code) (s₁ : State), Stand p l e rm s m as' below meth c s₁ [] 0 0 → p.tables.exec = Jvm.exec → Z.Warmed39 s.vm → c.code = bytes → c.maxLocals = maxL → meth.sig.returnType = ret → meth.locks = false → s.vm.findClass y.cls = some m.cls → meth.name = y.name → s₁.heap = h0 → own_Go p e below (own_Post Qv kc ks s) s₁ (entryFrame m as' maxL)) :
    own_Met l Z y bytes maxL ret ws rm h0 as' Qv kc ks := by
  refine MetFree.of_bodySF hpl hisR ?_
  intro p e s m args below meth c s₁ Bd hml0 hP hK
  obtain ⟨rfl, hZ, hh⟩ := hP
  exact body p e s m below meth c s₁ (Stand.of_body Bd) Bd.exec hZ Bd.bytes hml0 Bd.returns Bd.notSynchronized (findClass_of_methodNamed Bd.named) (name_of_methodNamed Bd.named Bd.method).1 (by rw [← hh, Bd.state]; rfl)
def own_PostW (Qv : Option Value → Heap → Vm → List Loc → Prop) (kc ks : Nat) (U : State) (o : Outcome) (U' : State) : Prop := ∃ v L, o = .returned v ∧ Qv v U'.heap U'.vm L ∧ ReturnedEndW U o U' L kc ks
def own_MetW (l : Launch) (Z : State) (y : MethodName) (bytes : ByteArray) (maxL : Nat) (ret : Option FieldType) (ws : List Jvm.Cond) (rm : Room) (h0 : Heap) (J : Vm → Prop) (as' : Array Value) (Qv : Option Value → Heap → Vm → List Loc → Prop) (kc ks : Nat) : Prop :=
  MetFree l y (head1 (Jvm.Cond.code y bytes maxL ret :: ws) rm) (fun a U => a = as' ∧ Z.Warmed39 U.vm ∧ U.heap = h0 ∧ J U.vm) (fun _ _ _ _ _ => True) (fun _ U o U' => own_PostW Qv kc ks U o U')
theorem own_startW {y : MethodName} {bytes : ByteArray} {maxL : Nat} {ret : Option FieldType} {ws : List Jvm.Cond} {rm : Room} {h0 : Heap} {J : Vm → Prop} {as' : Array Value} {Qv : Option Value → Heap → Vm → List Loc → Prop} {kc ks : Nat} (hpl : plainFor y = true)
    (body : ∀ (p : Program) (e : Env) (s : State) (m : MethodId) (below : List Frame) (meth : Method) (c : Code) (s₁ : State), Stand p l e rm (s.setVm s.vm) m as' below meth c s₁ [] 0 0 → p.tables.exec = Jvm.exec → Z.Warmed39 s.vm → c.code = bytes → c.maxLocals = maxL → meth.sig.returnType = ret → meth.locks = false → s.vm.findClass y.cls = some m.cls → meth.name = y.name → s₁.heap = h0 → s.Since s.vm 0 → s.heap = h0 → J s.vm → own_Go p e below (own_PostW Qv kc ks s) s₁ (entryFrame m as' maxL)) :
    own_MetW l Z y bytes maxL ret ws rm h0 J as' Qv kc ks := by
  refine MetFree.of_bodySF hpl hisR ?_
  intro p e s m args below meth c s₁ Bd hml0 hP hK
  obtain ⟨rfl, hZ, hh, hJ⟩ := hP
  exact body p e s m below meth c s₁ (Stand.of_body Bd) Bd.exec hZ Bd.bytes hml0 Bd.returns Bd.notSynchronized (findClass_of_methodNamed Bd.named) (name_of_methodNamed Bd.named Bd.method).1 (by rw [← hh, Bd.state]; rfl) ((State.WarmedH.refl s).since 0) hh hJ
def own_End (e : Env) (below : List Frame) (m : MethodId) (T : State) (v : Option Value) (P : Outcome → State → Prop) : Prop := ∃ fs, (∀ (f : JFrame) (acts : List Action), f.method = m → f.locked = none → f.entered = [] → (doReturn e (T.setTop f) acts v).1 = T.setFrames fs) ∧ (T.setFrames fs).status = .running ∧ Ended (T.setFrames fs) below (.returned v) ∧ P (.returned v) (T.setFrames fs)
theorem own_end {Qv : Option Value → Heap → List Loc → Prop} {kc ks : Nat} (X : Stand p l e R s m args below meth c T locs cells slots) {v : Option Value} (hv : meth.sig.returnType = none → v = none) (hlocks : meth.locks = false) (hc : cells ≤ kc) (hs : slots ≤ ks) (eT : T.heap = h) (q : Qv v h locs) : own_End e below m T v (own_Post Qv kc ks s) := by
  obtain ⟨fs, hr, hrun, hended, hW, hsame⟩ := X.leave hv hlocks
  exact ⟨fs, hr, hrun, hended, _, _, rfl, (by show Qv v T.heap locs; rw [eT]; exact q), ⟨_, rfl⟩, hW, hsame.mono hc hs⟩
theorem own_endW {Qv : Option Value → Heap → Vm → List Loc → Prop} {kc ks : Nat} {vm1 : Vm} (X : Stand p l e R (s.setVm vm1) m args below meth c T locs cells slots) {n : Nat} (hS : s.Since vm1 n) {v : Option Value} (hv : meth.sig.returnType = none → v = none) (hlocks : meth.locks = false) (hc : cells ≤ kc) (hs : slots ≤ ks) (eT : T.heap = h) (hk : n ≤ h.size) (q : ∀ vm', (s.setVm vm1).WarmedH vm' → Qv v h vm' locs) : own_End e below m T v (own_PostW Qv kc ks s) := by
  obtain ⟨fs, hr, hrun, hended, hE⟩ := X.leaveW hS (by rw [eT]; exact hk) hv hlocks
  exact ⟨fs, hr, hrun, hended, _, _, rfl, (by show Qv v T.heap T.vm locs; rw [eT]; exact q _ X.warmed), hE.1, hE.2.1, hE.2.2.1, hE.2.2.2.mono hc hs⟩
theorem own_fin {P : Outcome → State → Prop} {v : Option Value} {g : JFrame} (E : own_End e below m T v P) (st : ∀ fs, (∀ (f : JFrame) (acts : List Action), f.method = m → f.locked = none → f.entered = [] → (doReturn e (T.setTop f) acts v).1 = T.setFrames fs) → Steps p.tables e below (T.setTop g) (T.setFrames fs)) : own_Go p e below P T g := by
  obtain ⟨fs, hr, hrun, hended, q⟩ := E
  exact ⟨_, _, st fs hr, hrun, hended, q⟩
theorem own_some {t : FieldType} {v : Option Value} (hret : meth.sig.returnType = some t) : meth.sig.returnType = none → v = none := fun h => by rw [hret] at h; cases h
theorem own_finV {P : Outcome → State → Prop} (X : Stand p l e R s m args below meth c T locs cells slots) (hx : p.tables.exec = Jvm.exec) (hret : meth.sig.returnType = none) {pc : Nat} {Ls : Array Slot} (hd : decode c.code pc = .ok (.return_, 1)) (E : own_End e below m T none P) : own_Go p e below P T (mkF m pc Ls []) :=
  own_fin E (fun fs hr => X.returnOut hx hret hd hr)
theorem own_finX {P : Outcome → State → Prop} (X : Stand p l e R s m args below meth c T locs cells slots) (hx : p.tables.exec = Jvm.exec) {t : FieldType} (hret : meth.sig.returnType = some t) {pc : Nat} {Ls : Array Slot} {w : Value} {i : Instr} {rest : List Value} (hn : narrow t w = w)
    (hi : (i = .ireturn ∧ (t = .int ∨ t = .boolean ∨ t = .byte ∨ t = .char ∨ t = .short) ∧ ∃ z, w = .int z) ∨ (i = .lreturn ∧ t = .long ∧ ∃ z, w = .long z) ∨ (i = .dreturn ∧ t = .double ∧ ∃ z, w = .double z) ∨ (i = .freturn ∧ t = .float ∧ ∃ z, w = .float z) ∨ (i = .areturn ∧ t.isReference = true ∧ w.isRef = true))
    (hd : decode c.code pc = .ok (i, 1)) (E : own_End e below m T (some w) P) : own_Go p e below P T (mkF m pc Ls (w :: rest)) :=
  own_fin E (fun fs hr => retOut X hx hret hn hi hd hr)
theorem own_finI {P : Outcome → State → Prop} (X : Stand p l e R s m args below meth c T locs cells slots) (hx : p.tables.exec = Jvm.exec) (hret : meth.sig.returnType = some .int) {pc : Nat} {Ls : Array Slot} {z : Int32} {rest : List Value} (hd : decode c.code pc = .ok (.ireturn, 1)) (E : own_End e below m T (some (.int z)) P) : own_Go p e below P T (mkF m pc Ls (.int z :: rest)) :=
  own_finX X hx hret rfl (Or.inl ⟨rfl, Or.inl rfl, _, rfl⟩) hd E
theorem own_finL {P : Outcome → State → Prop} (X : Stand p l e R s m args below meth c T locs cells slots) (hx : p.tables.exec = Jvm.exec) (hret : meth.sig.returnType = some .long) {pc : Nat} {Ls : Array Slot} {z : Int64} {rest : List Value} (hd : decode c.code pc = .ok (.lreturn, 1)) (E : own_End e below m T (some (.long z)) P) : own_Go p e below P T (mkF m pc Ls (.long z :: rest)) :=
  own_finX X hx hret rfl (Or.inr (Or.inl ⟨rfl, rfl, _, rfl⟩)) hd E
theorem own_finD {P : Outcome → State → Prop} (X : Stand p l e R s m args below meth c T locs cells slots) (hx : p.tables.exec = Jvm.exec) (hret : meth.sig.returnType = some .double) {pc : Nat} {Ls : Array Slot} {z : UInt64} {rest : List Value} (hd : decode c.code pc = .ok (.dreturn, 1)) (E : own_End e below m T (some (.double z)) P) : own_Go p e below P T (mkF m pc Ls (.double z :: rest)) :=
  own_finX X hx hret rfl (Or.inr (Or.inr (Or.inl ⟨rfl, rfl, _, rfl⟩))) hd E
theorem own_finA {P : Outcome → State → Prop} (X : Stand p l e R s m args below meth c T locs cells slots) (hx : p.tables.exec = Jvm.exec) {t : FieldType} (hret : meth.sig.returnType = some t) (ht : t.isReference = true) {pc : Nat} {Ls : Array Slot} {w : Value} {rest : List Value} (hw : w.isRef = true) (hd : decode c.code pc = .ok (.areturn, 1)) (E : own_End e below m T (some w) P) : own_Go p e below P T (mkF m pc Ls (w :: rest)) :=
  own_finX X hx hret (by rcases ref_cases hw with rfl | ⟨z, rfl⟩ <;> cases t <;> first | rfl | cases ht) (Or.inr (Or.inr (Or.inr (Or.inr ⟨rfl, ht, hw⟩)))) hd E
theorem own_finZ {P : Outcome → State → Prop} (X : Stand p l e R s m args below meth c T locs cells slots) (hx : p.tables.exec = Jvm.exec) {t : FieldType} (hret : meth.sig.returnType = some t) (ht : t = .boolean ∨ t = .byte ∨ t = .char ∨ t = .short) {pc : Nat} {Ls : Array Slot} {z z' : Int32} {rest : List Value} (hz : nar t z = z') (hd : decode c.code pc = .ok (.ireturn, 1)) (E : own_End e below m T (some (.int z')) P) : own_Go p e below P T (mkF m pc Ls (.int z :: rest)) :=
  own_fin E (fun fs hr => by subst hz; exact retN X hx hret ht hd hr)
theorem own_callS (X : Stand p l e R s m args below meth c T locs cells slots) (hx : p.tables.exec = Jvm.exec) (hZ : Z.Warmed39 s.vm) {own : String} {index : Nat} {y : MethodName} {bytes : ByteArray} {maxL : Nat} {ret : Option FieldType} {rm : Room} {W : Nat} {Q : Option Value → Heap → List Loc → Prop} {argsL rest : List Value} {as' : Array Value}
    (hown : s.vm.findClass own = some m.cls) (w1 : (Cond.methodLink own index y).before a0 Z = true) (w2 : (Cond.static y).before a0 Z = true) (w3 : (Cond.initialized y.cls).before a0 Z = true) (w4 : (Cond.code y bytes maxL ret).before a0 Z = true) (hy : y.cls ≠ "java/lang/invoke/MethodHandle" ∧ y.cls ≠ "java/lang/invoke/VarHandle")
    (hM : own_Met l Z y bytes maxL ret [] rm h as' Q rm.cells rm.slots) (hf : rm.frames + 1 ≤ R.frames) (hl : W + (maxL + 11) + rm.locals ≤ R.locals) {g : JFrame} (hg : g.method = m) (hsz : g.locals.size = c.maxLocals) (has : argsL.toArray = as') (hlen : ∀ sig, parseMethodDescriptor y.desc = some sig → argsL.length = sig.parameters.length) (hstk : g.stack = argsL.reverse ++ rest) (hW : 2 * g.monitorRoom + (rest.map fun v => v.category).sum ≤ W)
    (hd : decode c.code g.pc = .ok (.invokestatic index, 3)) (eT : T.heap = h) (hc : cells + rm.cells ≤ R.cells) (hs : slots + rm.slots ≤ R.slots) :
    ∃ v T' L, Stand p l e R s m args below meth c T' (locs ++ L) (cells + rm.cells) (slots + rm.slots) ∧ Q v T'.heap L ∧ ∀ target, Steps p.tables e below (T'.setTop { g with pc := g.pc + 3, stack := v.toList ++ rest }) target → Steps p.tables e below (T.setTop g) target := by
  obtain ⟨v, _, ⟨T', L', k', n'⟩, -, X', ⟨Lc, hQ, l', y', z'⟩, st⟩ := Jvm.LawKit.callS X hx (y := y) hown (mvT hZ w1) (mvT hZ w2) (mvT hZ w3) (mvT hZ w4) hy (backOf (W := W) hM hZ w4 w3 hf hl) (g := g) hg hsz (argsL := argsL) (rest := rest) hlen hstk hW hd (fun _ _ => ⟨has, eT, hc, hs⟩)
  dsimp only [Pt.U, Pt.locs, Pt.cells, Pt.slots] at X' l' y' z' st hQ
  subst l' y' z'
  exact ⟨v, T', Lc, X', hQ, st⟩
theorem own_callI (X : Stand p l e R s m args below meth c T locs cells slots) (hx : p.tables.exec = Jvm.exec) (hZ : Z.Warmed39 s.vm) {own : String} {index : Nat} {y : MethodName} {bytes : ByteArray} {maxL : Nat} {rm : Room} {W : Nat} {Q : Option Value → Heap → List Loc → Prop} {a : Addr} {argsL rest : List Value} {as' : Array Value} (hyn : y.name = "<init>")
    (hown : s.vm.findClass own = some m.cls) (w1 : (Cond.methodLink own index y).before a0 Z = true) (w2 : (Cond.instanceMethod y).before a0 Z = true) (w3 : (Cond.initialized y.cls).before a0 Z = true) (w4 : (Cond.code y bytes maxL none).before a0 Z = true) (hy : y.cls ≠ "java/lang/invoke/MethodHandle" ∧ y.cls ≠ "java/lang/invoke/VarHandle")
    (hM : own_Met l Z y bytes maxL none [] rm h as' Q rm.cells rm.slots) (hf : rm.frames + 1 ≤ R.frames) (hl : W + (maxL + 11) + rm.locals ≤ R.locals) {g : JFrame} (hg : g.method = m) (hsz : g.locals.size = c.maxLocals) (has : (Value.ref a :: argsL).toArray = as') (hlen : ∀ sig, parseMethodDescriptor y.desc = some sig → argsL.length = sig.parameters.length) (hstk : g.stack = argsL.reverse ++ .ref a :: rest) (hW : 2 * g.monitorRoom + (rest.map fun v => v.category).sum ≤ W)
    (hd : decode c.code g.pc = .ok (.invokespecial index, 3)) (eT : T.heap = h) (hc : cells + rm.cells ≤ R.cells) (hs : slots + rm.slots ≤ R.slots) :
    ∃ v T' L, Stand p l e R s m args below meth c T' (locs ++ L) (cells + rm.cells) (slots + rm.slots) ∧ Q v T'.heap L ∧ ∀ target, Steps p.tables e below (T'.setTop { g with pc := g.pc + 3, stack := v.toList ++ rest }) target → Steps p.tables e below (T.setTop g) target := by
  obtain ⟨v, _, ⟨T', L', k', n'⟩, -, X', ⟨Lc, hQ, l', y', z'⟩, st⟩ := X.specialBack hx (y := y) hyn hown (mvT hZ w1) (mvT hZ w2) (mvT hZ w4) hy (backOf (W := W) hM hZ w4 w3 hf hl) (g := g) hg hsz (Steps.refl _) (a := a) (argsL := argsL) (rest := rest) hlen hstk hW hd (fun _ _ => ⟨has, eT, hc, hs⟩)
  dsimp only [Pt.U, Pt.locs, Pt.cells, Pt.slots] at X' l' y' z' st hQ
  subst l' y' z'
  exact ⟨v, T', Lc, X', hQ, fun t k => st.trans k⟩
theorem own_callV (X : Stand p l e R s m args below meth c T locs cells slots) (hx : p.tables.exec = Jvm.exec) (hZ : Z.Warmed39 s.vm) {own C : String} {index : Nat} {y z : MethodName} {bytes : ByteArray} {maxL : Nat} {ret : Option FieldType} {rm : Room} {W : Nat} {Q : Option Value → Heap → List Loc → Prop} {a : Addr} {argsL rest : List Value} {as' : Array Value}
    (hown : s.vm.findClass own = some m.cls) (w1 : (Cond.methodLink own index y).before a0 Z = true) (w2 : (Cond.declares y).before a0 Z = true) (hnf : NotFace s y) (wsel : (Cond.selects C y z).before a0 Z = true) (wi : (Cond.instanceMethod z).before a0 Z = true) (w3 : (Cond.initialized z.cls).before a0 Z = true) (w4 : (Cond.code z bytes maxL ret).before a0 Z = true) (hy : y.cls ≠ "java/lang/invoke/MethodHandle" ∧ y.cls ≠ "java/lang/invoke/VarHandle")
    (hM : own_Met l Z z bytes maxL ret [] rm h as' Q rm.cells rm.slots) (hf : rm.frames + 1 ≤ R.frames) (hl : W + (maxL + 11) + rm.locals ≤ R.locals) (E : Exa Z h a C) {g : JFrame} (hg : g.method = m) (hsz : g.locals.size = c.maxLocals) (has : (Value.ref a :: argsL).toArray = as') (hlen : ∀ sig, parseMethodDescriptor y.desc = some sig → argsL.length = sig.parameters.length) (hstk : g.stack = argsL.reverse ++ .ref a :: rest) (hW : 2 * g.monitorRoom + (rest.map fun v => v.category).sum ≤ W)
    (hd : decode c.code g.pc = .ok (.invokevirtual index, 3)) (eT : T.heap = h) (hc : cells + rm.cells ≤ R.cells) (hs : slots + rm.slots ≤ R.slots) :
    ∃ v T' L, Stand p l e R s m args below meth c T' (locs ++ L) (cells + rm.cells) (slots + rm.slots) ∧ Q v T'.heap L ∧ ∀ target, Steps p.tables e below (T'.setTop { g with pc := g.pc + 3, stack := v.toList ++ rest }) target → Steps p.tables e below (T.setTop g) target := by
  obtain ⟨cq, kq, qa, qb, qc⟩ := isOf hZ eT E
  obtain ⟨v, _, ⟨T', L', k', n'⟩, -, X', ⟨Lc, hQ, l', y', z'⟩, st⟩ := X.virtualBack hx (y := y) (z := z) hown (mvT hZ w1) (mvT hZ w2) hnf (mvT hZ wsel) (mvT hZ wi) hy (backOf (W := W) hM hZ w4 w3 hf hl) qa qc (g := g) hg hsz (Steps.refl _) (argsL := argsL) (rest := rest) hlen hstk hW hd (fun _ _ => ⟨has, eT, hc, hs⟩)
  dsimp only [Pt.U, Pt.locs, Pt.cells, Pt.slots] at X' l' y' z' st hQ
  subst l' y' z'
  exact ⟨v, T', Lc, X', hQ, fun t k => st.trans k⟩
theorem own_callP (X : Stand p l e R s m args below meth c T locs cells slots) (hx : p.tables.exec = Jvm.exec) (hZ : Z.Warmed39 s.vm) {own C : String} {index : Nat} {y : MethodName} {bytes : ByteArray} {maxL : Nat} {ret : Option FieldType} {rm : Room} {W : Nat} {Q : Option Value → Heap → List Loc → Prop} {a : Addr} {argsL rest : List Value} {as' : Array Value}
    (hown : s.vm.findClass own = some m.cls) (w1 : (Cond.methodLink own index y).before a0 Z = true) (wi : (Cond.instanceMethod y).before a0 Z = true) {kk : Nat} (wn : (Cond.instantiable y.cls kk).before a0 Z = true) (wp : (Cond.privateMethod y).before a0 Z = true) (w3 : (Cond.initialized y.cls).before a0 Z = true) (w4 : (Cond.code y bytes maxL ret).before a0 Z = true) (hy : y.cls ≠ "java/lang/invoke/MethodHandle" ∧ y.cls ≠ "java/lang/invoke/VarHandle")
    (hM : own_Met l Z y bytes maxL ret [] rm h as' Q rm.cells rm.slots) (hf : rm.frames + 1 ≤ R.frames) (hl : W + (maxL + 11) + rm.locals ≤ R.locals) (E : Exa Z h a C) {g : JFrame} (hg : g.method = m) (hsz : g.locals.size = c.maxLocals) (has : (Value.ref a :: argsL).toArray = as') (hlen : ∀ sig, parseMethodDescriptor y.desc = some sig → argsL.length = sig.parameters.length) (hstk : g.stack = argsL.reverse ++ .ref a :: rest) (hW : 2 * g.monitorRoom + (rest.map fun v => v.category).sum ≤ W)
    (hd : decode c.code g.pc = .ok (.invokevirtual index, 3)) (eT : T.heap = h) (hc : cells + rm.cells ≤ R.cells) (hs : slots + rm.slots ≤ R.slots) :
    ∃ v T' L, Stand p l e R s m args below meth c T' (locs ++ L) (cells + rm.cells) (slots + rm.slots) ∧ Q v T'.heap L ∧ ∀ target, Steps p.tables e below (T'.setTop { g with pc := g.pc + 3, stack := v.toList ++ rest }) target → Steps p.tables e below (T.setTop g) target := by
  obtain ⟨cq, q1, q2⟩ := E.cell
  obtain ⟨ci, ki, hi1, hi2, -, hi4, -⟩ := Cond.instantiable_spec (mvT (args := args) hZ wn)
  have hsel : (Cond.selects y.cls y y).before args s = true := selects_self_of_private hi1 hi2 (by simp only [Bool.or_eq_false_iff] at hi4; exact hi4.1) (Cond.privateMethod_at (mvP hZ wp (args := #[]))) (mvT hZ wi) hy
  obtain ⟨v, _, ⟨T', L', k', n'⟩, -, X', ⟨Lc, hQ, l', y', z'⟩, st⟩ := X.privateBack hx (y := y) hown (mvT hZ w1) (mvT hZ wi) hsel (Cond.privateMethod_at (mvP hZ wp (args := #[]))) (mvT hZ w4) hy (backOf (W := W) hM hZ w4 w3 hf hl) (g := g) hg hsz (Steps.refl _) (a := a) (by rw [eT]; exact q1) q2 (argsL := argsL) (rest := rest) hlen hstk hW hd (fun _ _ => ⟨has, eT, hc, hs⟩)
  dsimp only [Pt.U, Pt.locs, Pt.cells, Pt.slots] at X' l' y' z' st hQ
  subst l' y' z'
  exact ⟨v, T', Lc, X', hQ, fun t k => st.trans k⟩
end Own

theorem own_h {a0 : Array Value} {Z : State} (hw : ∀ d ∈ tables_1, d.before a0 Z = true) (i : Nat) {d : Jvm.Cond} (h : tables_1[i]? = some d) : d.before a0 Z = true := hw d (List.mem_of_getElem? h)
theorem own_at {T : State} {h : Heap} {a : Addr} {c : Cell} (eT : T.heap = h) (q : h[a]? = some c) : T.heap[a]? = some c := by rw [eT]; exact q
def own_b (b : Bool) : Int32 := cond b 1 0
theorem own_b0 {b : Bool} (h : b = false) : own_b b = 0 := by subst h; rfl
theorem own_b1 {b : Bool} (h : ¬ b = false) : ¬ own_b b = 0 := by cases b; exact absurd rfl h; decide
theorem own_narb (b : Bool) : nar .boolean (own_b b) = own_b b := by cases b <;> rfl
theorem own_lclt {a b : Int64} (h : a < b) : lcmpW a b < 0 := by rw [lcW]; exact (lc_lt a b).mpr h
theorem own_lcltN {a b : Int64} (h : ¬ a < b) : ¬ lcmpW a b < 0 := fun q => by rw [lcW] at q; exact h ((lc_lt a b).mp q)
theorem own_lcgt {a b : Int64} (h : b < a) : 0 < lcmpW a b := by rw [lcW]; exact (lc_gt a b).mpr h
theorem own_lcgtN {a b : Int64} (h : ¬ b < a) : ¬ 0 < lcmpW a b := fun q => by rw [lcW] at q; exact h ((lc_gt a b).mp q)
theorem own_lceq {a b : Int64} (h : a = b) : lcmpW a b = 0 := by rw [lcW]; exact (lc_eq a b).mpr h
theorem own_lceqN {a b : Int64} (h : ¬ a = b) : ¬ lcmpW a b = 0 := fun q => by rw [lcW] at q; exact h ((lc_eq a b).mp q)
theorem own_insKeep {Z : State} {h h' : Heap} {a : Addr} {C : String} {bo : Bool} {ws : List Addr} (F : Ins Z h a C bo) (K : Keep h h' ws) : Ins Z h' a C bo := by
  obtain ⟨cell, cT, h1, h2, h3⟩ := F
  obtain ⟨c', q1, q2, q3, -⟩ := K.2.2 _ _ h1
  exact ⟨c', cT, q1, h2, by rw [q2, q3]; exact h3⟩
theorem own_staKeep {Z : State} {h h' : Heap} {C n d : String} {v : Value} (F : Sta Z h C n d v) (K : Keep h h' []) : Sta Z h' C n d v := by
  obtain ⟨cf, i, k, f, st, cell, h1, h2, h3, h4, h5, r⟩ := F
  exact ⟨cf, i, k, f, st, cell, h1, h2, h3, h4, K.2.1 _ _ h5 nin0, r⟩
theorem own_narR {t : FieldType} {w : Value} (hw : w.isRef = true) : narrow t w = w := by rcases ref_cases hw with rfl | ⟨z, rfl⟩ <;> cases t <;> rfl
theorem own_fitR {n : String} {w : Value} (hw : w.isRef = true) : fits (.object n) w = true := by rcases ref_cases hw with rfl | ⟨z, rfl⟩ <;> rfl
theorem own_len {p : Program} {l : Launch} {e : Env} {R : Room} {s : State} {m : MethodId} {args : Array Value} {below : List Frame} {meth : Method} {c : Code} {T : State} {locs : List Loc} {cells slots : Nat} {Z : State} {h : Heap} (X : Stand p l e R s m args below meth c T locs cells slots) (hx : p.tables.exec = Jvm.exec) (hZ : Z.Warmed39 s.vm) (eT : T.heap = h) {a : Addr} {cl : Cell} {ty : FieldType} {z : Int32} (A : Arr Z h a cl ty) (S : cl.slots.size = z.toNatClampNeg) (hz : ¬ z < 0)
    {g : JFrame} (hg : g.method = m) {rest : List Value} (hs : g.stack = .ref a :: rest) (hd : decode c.code g.pc = .ok (.arraylength, 1)) {target : State} (k : Steps p.tables e below (T.setTop { g with pc := g.pc + 1, stack := .int z :: rest }) target) : Steps p.tables e below (T.setTop g) target := by
  refine X.arraylength hx (by rw [eT]; exact A.1) (State.isArrayOf_alike hZ.alike A.2.1) (g := g) hg hs hd _ ?_
  rw [len_of S hz]
  exact k
def own_of (x : Int32) (o0 o1 o2 o3 o4 o5 o6 o7 o8 o9 : Addr) : Value := if (20 : Int32) = x then Value.ref o0 else if (30 : Int32) = x then Value.ref o1 else if (31 : Int32) = x then Value.ref o2 else if (40 : Int32) = x then Value.ref o3 else if (50 : Int32) = x then Value.ref o4 else if (60 : Int32) = x then Value.ref o5 else if (70 : Int32) = x then Value.ref o6 else if (80 : Int32) = x then Value.ref o7 else if (90 : Int32) = x then Value.ref o8 else if (100 : Int32) = x then Value.ref o9 else Value.null
abbrev own_y0 : MethodName := ⟨"com/example/tidewire/tidewire/exchange/Status", "values", "()[Lcom/example/tidewire/tidewire/exchange/Status;"⟩
theorem own_pn0 : plainName "com/example/tidewire/tidewire/exchange/Status" = true := by first | (simp [plainName, overriddenIn]; done) | decide +kernel
theorem own_dval_0 : decode prog_9_method_1_code 0 = .ok (.getstatic 34, 3) := by decide +kernel
theorem own_dval_3 : decode prog_9_method_1_code 3 = .ok (.invokevirtual 38, 3) := by decide +kernel
theorem own_dval_6 : decode prog_9_method_1_code 6 = .ok (.checkcast 39, 3) := by decide +kernel
theorem own_dval_9 : decode prog_9_method_1_code 9 = .ok (.areturn, 1) := by decide +kernel
theorem own_efval (m : MethodId)  : entryFrame m #[] 0 = mkF m 0 #[] [] := by first | (simp [entryFrame, mkF, argsToLocals, Value.category]; done) | rfl
def own_Qval (Z : State)  (vA : Addr) (kA : ClassId) (o0 o1 o2 o3 o4 o5 o6 o7 o8 o9 : Addr) (h0 : Heap) (n0 : Nat) : Option Value → Heap → List Loc → Prop := fun v h L => (∃ b, v = some (.ref b) ∧ Arv Z h b kA (.object "com/example/tidewire/tidewire/exchange/Status") (10 : Int32) [(.ref o0), (.ref o1), (.ref o2), (.ref o3), (.ref o4), (.ref o5), (.ref o6), (.ref o7), (.ref o8), (.ref o9)] .null) ∧ Fr n0 L ∧ Ext h0 h
def own_Rval : Room := { frames := 1, cells := 1, slots := 10, locals := 14 }
set_option maxRecDepth 65536 in
set_option maxHeartbeats 40000000 in
theorem own_rmval (l : Launch) (Z : State) (a0 : Array Value) (hw : ∀ d ∈ tables_1, d.before a0 Z = true) (ws : List Jvm.Cond)  (vA : Addr) (kA : ClassId) (o0 o1 o2 o3 o4 o5 o6 o7 o8 o9 : Addr) (h0 : Heap) (n0 : Nat) (Z0 : n0 ≤ h0.size) (VV : Arv Z h0 vA kA (.object "com/example/tidewire/tidewire/exchange/Status") (10 : Int32) [(.ref o0), (.ref o1), (.ref o2), (.ref o3), (.ref o4), (.ref o5), (.ref o6), (.ref o7), (.ref o8), (.ref o9)] .null) (EV : Exa Z h0 vA "[Lcom/example/tidewire/tidewire/exchange/Status;") (SV : Sta Z h0 "com/example/tidewire/tidewire/exchange/Status" "$VALUES" "[Lcom/example/tidewire/tidewire/exchange/Status;" (.ref vA)) :
    own_Met l Z own_y0 prog_9_method_1_code 0 (some (.array (.object "com/example/tidewire/tidewire/exchange/Status"))) ws own_Rval h0 #[] (own_Qval Z vA kA o0 o1 o2 o3 o4 o5 o6 o7 o8 o9 h0 n0) own_Rval.cells own_Rval.slots := by
  refine own_start (plainFor_of_name own_pn0) ?_
  intro p e s m below meth c s₁ X0 hx hZ hby hml hret hlk hown hnm e0
  have hown : s.vm.findClass "com/example/tidewire/tidewire/exchange/Status" = some m.cls := hown
  have hml : c.maxLocals = 0 := hml
  have N0 := Fr.nil n0
  refine own_cast (own_efval m ) ?_
  obtain ⟨T1, X1, e1, st1⟩ := getS2 X0 hx hZ hown (host := "") (Or.inl (own_h hw 7 rfl)) Via.refl e0 SV (g := (mkF m 0 #[] [])) rfl (hb hby own_dval_0)
  refine own_s T1 (mkF m 3 #[] [(.ref vA)]) st1 ?_
  obtain ⟨T2, h2, X2, e2, E2, V2, A2, st2⟩ := cloneH X1 hx hZ hown (own_h hw 9 rfl) (own_h hw 10 rfl) (own_h hw 14 rfl) (own_h hw 12 rfl) (own_h hw 13 rfl) (own_h hw 15 rfl) e1 (Arv.arh VV) EV (g := (mkF m 3 #[] [(.ref vA)])) rfl (by rw [hml]; rfl) rfl (hb hby own_dval_3) (by decide) (W := 0) (cap := 10) (by show 2 * 0 + _ ≤ _; exact Nat.le_of_eq rfl) (by decide) (by decide) (by decide) (by decide)
  obtain ⟨b2, g2⟩ : ∃ z, z = h0.size := ⟨_, rfl⟩
  have ne_vA_b2 : vA ≠ b2 := Nat.ne_of_lt (Nat.lt_of_lt_of_le VV.lt (Nat.le_of_eq g2.symm))
  have g_b2 : n0 ≤ b2 := Nat.le_trans Z0 (Nat.le_of_eq g2.symm)
  have sz_b2 : h0.size ≤ b2 := Nat.le_trans (Keep.refl h0 []).1 (Nat.le_of_eq g2.symm)
  rw [← g2] at V2 A2 st2
  have f3 := VV.ext E2
  have f4 := Exa.ext E2 EV
  have f5 := Sta.ext E2 SV
  have K2 : Keep h0 h2 [] := (Keep.refl h0 []).ext E2
  have Z2 := Nat.le_trans Z0 E2.1
  refine own_s T2 (mkF m 6 #[] [(.ref b2)]) st2 ?_
  obtain ⟨T6, X6, e6, st6⟩ := castY X2 hx hZ hown (own_h hw 27 rfl) e2 (Ins.self A2) (g := (mkF m 6 #[] [(.ref b2)])) rfl rfl (hb hby own_dval_6)
  refine own_s T6 (mkF m 9 #[] [(.ref b2)]) st6 ?_
  exact own_finA X6 hx hret rfl rfl (hb hby own_dval_9) (own_end (Qv := (own_Qval Z vA kA o0 o1 o2 o3 o4 o5 o6 o7 o8 o9 h0 n0)) X6 (own_some hret) hlk (by decide) (by decide) e6 ⟨⟨_, rfl, V2⟩, N0, E2⟩)
theorem own_pd0 : parseMethodDescriptor "()[Lcom/example/tidewire/tidewire/exchange/Status;" = some ⟨[], some (.array (.object "com/example/tidewire/tidewire/exchange/Status"))⟩ := by decide +kernel
abbrev own_y1 : MethodName := ⟨"com/example/tidewire/tidewire/exchange/Status", "of", "(I)Lcom/example/tidewire/tidewire/exchange/Status;"⟩
theorem own_dof_0 : decode prog_9_method_5_code 0 = .ok (.invokestatic 57, 3) := by decide +kernel
theorem own_dof_3 : decode prog_9_method_5_code 3 = .ok (.astore_n 1, 1) := by decide +kernel
theorem own_dof_4 : decode prog_9_method_5_code 4 = .ok (.aload_n 1, 1) := by decide +kernel
theorem own_dof_5 : decode prog_9_method_5_code 5 = .ok (.arraylength, 1) := by decide +kernel
theorem own_dof_6 : decode prog_9_method_5_code 6 = .ok (.istore_n 2, 1) := by decide +kernel
theorem own_dof_7 : decode prog_9_method_5_code 7 = .ok (.iconst 0, 1) := by decide +kernel
theorem own_dof_8 : decode prog_9_method_5_code 8 = .ok (.istore_n 3, 1) := by decide +kernel
theorem own_dof_9 : decode prog_9_method_5_code 9 = .ok (.iload_n 3, 1) := by decide +kernel
theorem own_dof_10 : decode prog_9_method_5_code 10 = .ok (.iload_n 2, 1) := by decide +kernel
theorem own_dof_11 : decode prog_9_method_5_code 11 = .ok (.if_icmp .ge 26, 3) := by decide +kernel
theorem own_dof_14 : decode prog_9_method_5_code 14 = .ok (.aload_n 1, 1) := by decide +kernel
theorem own_dof_15 : decode prog_9_method_5_code 15 = .ok (.iload_n 3, 1) := by decide +kernel
theorem own_dof_16 : decode prog_9_method_5_code 16 = .ok (.aaload, 1) := by decide +kernel
theorem own_dof_17 : decode prog_9_method_5_code 17 = .ok (.astore 4, 2) := by decide +kernel
theorem own_dof_19 : decode prog_9_method_5_code 19 = .ok (.aload 4, 2) := by decide +kernel
theorem own_dof_21 : decode prog_9_method_5_code 21 = .ok (.getfield 53, 3) := by decide +kernel
theorem own_dof_24 : decode prog_9_method_5_code 24 = .ok (.iload_n 0, 1) := by decide +kernel
theorem own_dof_25 : decode prog_9_method_5_code 25 = .ok (.if_icmp .ne 6, 3) := by decide +kernel
theorem own_dof_28 : decode prog_9_method_5_code 28 = .ok (.aload 4, 2) := by decide +kernel
theorem own_dof_30 : decode prog_9_method_5_code 30 = .ok (.areturn, 1) := by decide +kernel
theorem own_dof_31 : decode prog_9_method_5_code 31 = .ok (.iinc 3 1, 3) := by decide +kernel
theorem own_dof_34 : decode prog_9_method_5_code 34 = .ok (.goto (-25), 3) := by decide +kernel
theorem own_dof_37 : decode prog_9_method_5_code 37 = .ok (.aconst_null, 1) := by decide +kernel
theorem own_dof_38 : decode prog_9_method_5_code 38 = .ok (.areturn, 1) := by decide +kernel
theorem own_efof (m : MethodId) (x0 : Int32) : entryFrame m #[(.int x0)] 5 = mkF m 0 #[iv x0, u_, u_, u_, u_] [] := by first | (simp [entryFrame, mkF, argsToLocals, Value.category]; done) | rfl
def own_Qof (Z : State) (p1 : Int32) (vA : Addr) (kA : ClassId) (o0 o1 o2 o3 o4 o5 o6 o7 o8 o9 : Addr) (w : Value) (h0 : Heap) (n0 : Nat) : Option Value → Heap → List Loc → Prop := fun v h L => v = some w ∧ Fr n0 L ∧ Ext h0 h
def own_Rof : Room := { frames := 2, cells := 1, slots := 10, locals := 25 }
set_option maxRecDepth 65536 in
set_option maxHeartbeats 40000000 in
theorem own_rmof (l : Launch) (Z : State) (a0 : Array Value) (hw : ∀ d ∈ tables_1, d.before a0 Z = true) (ws : List Jvm.Cond) (p1 : Int32) (vA : Addr) (kA : ClassId) (o0 o1 o2 o3 o4 o5 o6 o7 o8 o9 : Addr) (w : Value) (h0 : Heap) (n0 : Nat) (Z0 : n0 ≤ h0.size) (VV : Arv Z h0 vA kA (.object "com/example/tidewire/tidewire/exchange/Status") (10 : Int32) [(.ref o0), (.ref o1), (.ref o2), (.ref o3), (.ref o4), (.ref o5), (.ref o6), (.ref o7), (.ref o8), (.ref o9)] .null) (EV : Exa Z h0 vA "[Lcom/example/tidewire/tidewire/exchange/Status;") (SV : Sta Z h0 "com/example/tidewire/tidewire/exchange/Status" "$VALUES" "[Lcom/example/tidewire/tidewire/exchange/Status;" (.ref vA)) (F0 : Fld Z h0 o0 "com/example/tidewire/tidewire/exchange/Status" "code" "I" (.int (20 : Int32))) (F1 : Fld Z h0 o1 "com/example/tidewire/tidewire/exchange/Status" "code" "I" (.int (30 : Int32))) (F2 : Fld Z h0 o2 "com/example/tidewire/tidewire/exchange/Status" "code" "I" (.int (31 : Int32))) (F3 : Fld Z h0 o3 "com/example/tidewire/tidewire/exchange/Status" "code" "I" (.int (40 : Int32))) (F4 : Fld Z h0 o4 "com/example/tidewire/tidewire/exchange/Status" "code" "I" (.int (50 : Int32))) (F5 : Fld Z h0 o5 "com/example/tidewire/tidewire/exchange/Status" "code" "I" (.int (60 : Int32))) (F6 : Fld Z h0 o6 "com/example/tidewire/tidewire/exchange/Status" "code" "I" (.int (70 : Int32))) (F7 : Fld Z h0 o7 "com/example/tidewire/tidewire/exchange/Status" "code" "I" (.int (80 : Int32))) (F8 : Fld Z h0 o8 "com/example/tidewire/tidewire/exchange/Status" "code" "I" (.int (90 : Int32))) (F9 : Fld Z h0 o9 "com/example/tidewire/tidewire/exchange/Status" "code" "I" (.int (100 : Int32))) (hof : own_of p1 o0 o1 o2 o3 o4 o5 o6 o7 o8 o9 = w) :
    own_Met l Z own_y1 prog_9_method_5_code 5 (some (.object "com/example/tidewire/tidewire/exchange/Status")) ws own_Rof h0 #[(.int p1)] (own_Qof Z p1 vA kA o0 o1 o2 o3 o4 o5 o6 o7 o8 o9 w h0 n0) own_Rof.cells own_Rof.slots := by
  refine own_start (plainFor_of_name own_pn0) ?_
  intro p e s m below meth c s₁ X0 hx hZ hby hml hret hlk hown hnm e0
  have hown : s.vm.findClass "com/example/tidewire/tidewire/exchange/Status" = some m.cls := hown
  have hml : c.maxLocals = 5 := hml
  have N0 := Fr.nil n0
  refine own_cast (own_efof m p1) ?_
  obtain ⟨v1, T1, L1, X1, hQ1, st1⟩ := own_callS X0 hx hZ (y := own_y0) (W := 0) hown (own_h hw 4 rfl) (own_h hw 5 rfl) (own_h hw 2 rfl) (own_h hw 6 rfl) (by decide) (own_rmval l Z a0 hw [] vA kA o0 o1 o2 o3 o4 o5 o6 o7 o8 o9 h0 n0 Z0 VV EV SV) (by decide) (by decide) (g := (mkF m 0 #[iv p1, u_, u_, u_, u_] [])) rfl (by rw [hml]; rfl) (argsL := []) (rest := []) rfl (lenOf own_pd0 rfl) rfl (by show 2 * 0 + _ ≤ _; exact Nat.le_of_eq rfl) (hb hby own_dof_0) e0 (by decide) (by decide)
  obtain ⟨⟨b1, rfl, V1⟩, Nq1, E1⟩ := hQ1
  have N1 := Fr.app N0 Nq1
  have f2 := VV.ext E1
  have f3 := Exa.ext E1 EV
  have f4 := Sta.ext E1 SV
  have f5 := Fld.ext E1 F0
  have f6 := Fld.ext E1 F1
  have f7 := Fld.ext E1 F2
  have f8 := Fld.ext E1 F3
  have f9 := Fld.ext E1 F4
  have f10 := Fld.ext E1 F5
  have f11 := Fld.ext E1 F6
  have f12 := Fld.ext E1 F7
  have f13 := Fld.ext E1 F8
  have f14 := Fld.ext E1 F9
  have Z1 := Nat.le_trans Z0 E1.1
  refine own_s T1 (mkF m 3 #[iv p1, u_, u_, u_, u_] [(.ref b1)]) st1 ?_
  refine own_s T1 (mkF m 5 #[iv p1, rv b1, u_, u_, u_] [(.ref b1)]) (fun _ k => XS.astoreN X1.here hx rfl (hb hby own_dof_3) rfl rfl (l' := #[iv p1, rv b1, u_, u_, u_]) rfl (XS.aloadN X1.here hx rfl (hb hby own_dof_4) rfl rfl k)) ?_
  obtain ⟨cl15, Ar15, q15, S15, Nn15, H15, G15⟩ := id V1
  refine own_s T1 (mkF m 10 #[iv p1, rv b1, iv 10, iv 0, u_] [(.int 0)]) (fun _ k => own_len X1 hx hZ rfl Ar15 S15 Nn15 (g := (mkF m 5 #[iv p1, rv b1, u_, u_, u_] [(.ref b1)])) rfl rfl (hb hby own_dof_5) (XS.istoreN X1.here hx rfl (hb hby own_dof_6) rfl (l' := #[iv p1, rv b1, iv 10, u_, u_]) rfl (XS.iconst X1.here hx rfl (hb hby own_dof_7) (XS.istoreN X1.here hx rfl (hb hby own_dof_8) rfl (l' := #[iv p1, rv b1, iv 10, iv 0, u_]) rfl (XS.iloadN X1.here hx rfl (hb hby own_dof_9) rfl  k))))) ?_
  refine own_s T1 (mkF m 16 #[iv p1, rv b1, iv 10, iv 0, u_] [(.int 0), (.ref b1)]) (fun _ k => XS.iloadN X1.here hx rfl (hb hby own_dof_10) rfl  (XS.icmpNo X1.here hx rfl (hb hby own_dof_11) rfl (tlt (by decide : ((0 : Int32) < (10 : Int32)))).2.1 (XS.aloadN X1.here hx rfl (hb hby own_dof_14) rfl rfl (XS.iloadN X1.here hx rfl (hb hby own_dof_15) rfl  k)))) ?_
  obtain ⟨cl16, Ar16, q16, S16, Nn16, H16, G16⟩ := id V1
  have hin16 : ¬ ((0 : Int32) < 0 ∨ cl16.slots.size ≤ ((0 : Int32)).toNatClampNeg) := (inb_of S16 ⟨by decide, by decide⟩)
  refine own_s T1 (mkF m 21 #[iv p1, rv b1, iv 10, iv 0, rv o0] [(.ref o0)]) (fun _ k => X1.aaload hx (j := (0 : Int32)) (v := (.ref o0)) (own_at rfl Ar16.1) (State.isArrayOf_alike hZ.alike Ar16.2.1) rfl Ar16.2.2 hin16 (Has.at H16 hin16 rfl) (g := (mkF m 16 #[iv p1, rv b1, iv 10, iv 0, u_] [(.int 0), (.ref b1)])) rfl rfl (hb hby own_dof_16) _ (XS.astore X1.here hx rfl (hb hby own_dof_17) rfl rfl (l' := #[iv p1, rv b1, iv 10, iv 0, rv o0]) rfl (XS.aload X1.here hx rfl (hb hby own_dof_19) rfl rfl k))) ?_
  obtain ⟨T17, X17, e17, st17⟩ := getF X1 hx hZ hown (host := "") (Or.inl (own_h hw 29 rfl)) Via.refl rfl f5 (g := (mkF m 21 #[iv p1, rv b1, iv 10, iv 0, rv o0] [(.ref o0)])) rfl rfl (hb hby own_dof_21)
  refine own_s T17 (mkF m 24 #[iv p1, rv b1, iv 10, iv 0, rv o0] [(.int 20)]) st17 ?_
  refine own_s T17 (mkF m 25 #[iv p1, rv b1, iv 10, iv 0, rv o0] [(.int p1), (.int 20)]) (fun _ k => XS.iloadN X17.here hx rfl (hb hby own_dof_24) rfl  k) ?_
  by_cases c25 : (20 : Int32) = p1
  · refine own_s T17 (mkF m 30 #[iv p1, rv b1, iv 10, iv 0, rv o0] [(.ref o0)]) (fun _ k => XS.icmpNo X17.here hx rfl (hb hby own_dof_25) rfl (teq c25).2 (XS.aload X17.here hx rfl (hb hby own_dof_28) rfl rfl k)) ?_
    exact own_finA X17 hx hret rfl rfl (hb hby own_dof_30) (own_end (Qv := (own_Qof Z p1 vA kA o0 o1 o2 o3 o4 o5 o6 o7 o8 o9 w h0 n0)) X17 (own_some hret) hlk (by decide) (by decide) e17 ⟨by rw [← hof, own_of, if_pos c25], N1, E1⟩)
  · refine own_s T17 (mkF m 11 #[iv p1, rv b1, iv 10, iv 1, rv o0] [(.int 10), (.int 1)]) (fun _ k => XS.icmpYes X17.here hx rfl (pc0 := 25) (pc' := 31) rfl (hb hby own_dof_25) rfl (feq c25).2 (by decide) (by decide) (XS.iinc X17.here hx rfl (hb hby own_dof_31) rfl (l' := #[iv p1, rv b1, iv 10, iv 1, rv o0]) rfl (XS.goto X17.here hx rfl (pc0 := 34) (pc' := 9) rfl (hb hby own_dof_34) (by decide) (by decide) (XS.iloadN X17.here hx rfl (hb hby own_dof_9) rfl  (XS.iloadN X17.here hx rfl (hb hby own_dof_10) rfl  k))))) ?_
    refine own_s T17 (mkF m 16 #[iv p1, rv b1, iv 10, iv 1, rv o0] [(.int 1), (.ref b1)]) (fun _ k => XS.icmpNo X17.here hx rfl (hb hby own_dof_11) rfl (tlt (by decide : ((1 : Int32) < (10 : Int32)))).2.1 (XS.aloadN X17.here hx rfl (hb hby own_dof_14) rfl rfl (XS.iloadN X17.here hx rfl (hb hby own_dof_15) rfl  k))) ?_
    obtain ⟨cl18, Ar18, q18, S18, Nn18, H18, G18⟩ := id V1
    have hin18 : ¬ ((1 : Int32) < 0 ∨ cl18.slots.size ≤ ((1 : Int32)).toNatClampNeg) := (inb_of S18 ⟨by decide, by decide⟩)
    refine own_s T17 (mkF m 21 #[iv p1, rv b1, iv 10, iv 1, rv o1] [(.ref o1)]) (fun _ k => X17.aaload hx (j := (1 : Int32)) (v := (.ref o1)) (own_at e17 Ar18.1) (State.isArrayOf_alike hZ.alike Ar18.2.1) rfl Ar18.2.2 hin18 (Has.at H18 hin18 rfl) (g := (mkF m 16 #[iv p1, rv b1, iv 10, iv 1, rv o0] [(.int 1), (.ref b1)])) rfl rfl (hb hby own_dof_16) _ (XS.astore X17.here hx rfl (hb hby own_dof_17) rfl rfl (l' := #[iv p1, rv b1, iv 10, iv 1, rv o1]) rfl (XS.aload X17.here hx rfl (hb hby own_dof_19) rfl rfl k))) ?_
    obtain ⟨T19, X19, e19, st19⟩ := getF X17 hx hZ hown (host := "") (Or.inl (own_h hw 29 rfl)) Via.refl e17 f6 (g := (mkF m 21 #[iv p1, rv b1, iv 10, iv 1, rv o1] [(.ref o1)])) rfl rfl (hb hby own_dof_21)
    refine own_s T19 (mkF m 24 #[iv p1, rv b1, iv 10, iv 1, rv o1] [(.int 30)]) st19 ?_
    refine own_s T19 (mkF m 25 #[iv p1, rv b1, iv 10, iv 1, rv o1] [(.int p1), (.int 30)]) (fun _ k => XS.iloadN X19.here hx rfl (hb hby own_dof_24) rfl  k) ?_
    by_cases c25_2 : (30 : Int32) = p1
    · refine own_s T19 (mkF m 30 #[iv p1, rv b1, iv 10, iv 1, rv o1] [(.ref o1)]) (fun _ k => XS.icmpNo X19.here hx rfl (hb hby own_dof_25) rfl (teq c25_2).2 (XS.aload X19.here hx rfl (hb hby own_dof_28) rfl rfl k)) ?_
      exact own_finA X19 hx hret rfl rfl (hb hby own_dof_30) (own_end (Qv := (own_Qof Z p1 vA kA o0 o1 o2 o3 o4 o5 o6 o7 o8 o9 w h0 n0)) X19 (own_some hret) hlk (by decide) (by decide) e19 ⟨by rw [← hof, own_of, if_neg c25, if_pos c25_2], N1, E1⟩)
    · refine own_s T19 (mkF m 11 #[iv p1, rv b1, iv 10, iv 2, rv o1] [(.int 10), (.int 2)]) (fun _ k => XS.icmpYes X19.here hx rfl (pc0 := 25) (pc' := 31) rfl (hb hby own_dof_25) rfl (feq c25_2).2 (by decide) (by decide) (XS.iinc X19.here hx rfl (hb hby own_dof_31) rfl (l' := #[iv p1, rv b1, iv 10, iv 2, rv o1]) rfl (XS.goto X19.here hx rfl (pc0 := 34) (pc' := 9) rfl (hb hby own_dof_34) (by decide) (by decide) (XS.iloadN X19.here hx rfl (hb hby own_dof_9) rfl  (XS.iloadN X19.here hx rfl (hb hby own_dof_10) rfl  k))))) ?_
      refine own_s T19 (mkF m 16 #[iv p1, rv b1, iv 10, iv 2, rv o1] [(.int 2), (.ref b1)]) (fun _ k => XS.icmpNo X19.here hx rfl (hb hby own_dof_11) rfl (tlt (by decide : ((2 : Int32) < (10 : Int32)))).2.1 (XS.aloadN X19.here hx rfl (hb hby own_dof_14) rfl rfl (XS.iloadN X19.here hx rfl (hb hby own_dof_15) rfl  k))) ?_
      obtain ⟨cl20, Ar20, q20, S20, Nn20, H20, G20⟩ := id V1
      have hin20 : ¬ ((2 : Int32) < 0 ∨ cl20.slots.size ≤ ((2 : Int32)).toNatClampNeg) := (inb_of S20 ⟨by decide, by decide⟩)
      refine own_s T19 (mkF m 21 #[iv p1, rv b1, iv 10, iv 2, rv o2] [(.ref o2)]) (fun _ k => X19.aaload hx (j := (2 : Int32)) (v := (.ref o2)) (own_at e19 Ar20.1) (State.isArrayOf_alike hZ.alike Ar20.2.1) rfl Ar20.2.2 hin20 (Has.at H20 hin20 rfl) (g := (mkF m 16 #[iv p1, rv b1, iv 10, iv 2, rv o1] [(.int 2), (.ref b1)])) rfl rfl (hb hby own_dof_16) _ (XS.astore X19.here hx rfl (hb hby own_dof_17) rfl rfl (l' := #[iv p1, rv b1, iv 10, iv 2, rv o2]) rfl (XS.aload X19.here hx rfl (hb hby own_dof_19) rfl rfl k))) ?_
      obtain ⟨T21, X21, e21, st21⟩ := getF X19 hx hZ hown (host := "") (Or.inl (own_h hw 29 rfl)) Via.refl e19 f7 (g := (mkF m 21 #[iv p1, rv b1, iv 10, iv 2, rv o2] [(.ref o2)])) rfl rfl (hb hby own_dof_21)
      refine own_s T21 (mkF m 24 #[iv p1, rv b1, iv 10, iv 2, rv o2] [(.int 31)]) st21 ?_
      refine own_s T21 (mkF m 25 #[iv p1, rv b1, iv 10, iv 2, rv o2] [(.int p1), (.int 31)]) (fun _ k => XS.iloadN X21.here hx rfl (hb hby own_dof_24) rfl  k) ?_
      by_cases c25_3 : (31 : Int32) = p1
      · refine own_s T21 (mkF m 30 #[iv p1, rv b1, iv 10, iv 2, rv o2] [(.ref o2)]) (fun _ k => XS.icmpNo X21.here hx rfl (hb hby own_dof_25) rfl (teq c25_3).2 (XS.aload X21.here hx rfl (hb hby own_dof_28) rfl rfl k)) ?_
        exact own_finA X21 hx hret rfl rfl (hb hby own_dof_30) (own_end (Qv := (own_Qof Z p1 vA kA o0 o1 o2 o3 o4 o5 o6 o7 o8 o9 w h0 n0)) X21 (own_some hret) hlk (by decide) (by decide) e21 ⟨by rw [← hof, own_of, if_neg c25, if_neg c25_2, if_pos c25_3], N1, E1⟩)
      · refine own_s T21 (mkF m 11 #[iv p1, rv b1, iv 10, iv 3, rv o2] [(.int 10), (.int 3)]) (fun _ k => XS.icmpYes X21.here hx rfl (pc0 := 25) (pc' := 31) rfl (hb hby own_dof_25) rfl (feq c25_3).2 (by decide) (by decide) (XS.iinc X21.here hx rfl (hb hby own_dof_31) rfl (l' := #[iv p1, rv b1, iv 10, iv 3, rv o2]) rfl (XS.goto X21.here hx rfl (pc0 := 34) (pc' := 9) rfl (hb hby own_dof_34) (by decide) (by decide) (XS.iloadN X21.here hx rfl (hb hby own_dof_9) rfl  (XS.iloadN X21.here hx rfl (hb hby own_dof_10) rfl  k))))) ?_
        refine own_s T21 (mkF m 16 #[iv p1, rv b1, iv 10, iv 3, rv o2] [(.int 3), (.ref b1)]) (fun _ k => XS.icmpNo X21.here hx rfl (hb hby own_dof_11) rfl (tlt (by decide : ((3 : Int32) < (10 : Int32)))).2.1 (XS.aloadN X21.here hx rfl (hb hby own_dof_14) rfl rfl (XS.iloadN X21.here hx rfl (hb hby own_dof_15) rfl  k))) ?_
        obtain ⟨cl22, Ar22, q22, S22, Nn22, H22, G22⟩ := id V1
        have hin22 : ¬ ((3 : Int32) < 0 ∨ cl22.slots.size ≤ ((3 : Int32)).toNatClampNeg) := (inb_of S22 ⟨by decide, by decide⟩)
        refine own_s T21 (mkF m 21 #[iv p1, rv b1, iv 10, iv 3, rv o3] [(.ref o3)]) (fun _ k => X21.aaload hx (j := (3 : Int32)) (v := (.ref o3)) (own_at e21 Ar22.1) (State.isArrayOf_alike hZ.alike Ar22.2.1) rfl Ar22.2.2 hin22 (Has.at H22 hin22 rfl) (g := (mkF m 16 #[iv p1, rv b1, iv 10, iv 3, rv o2] [(.int 3), (.ref b1)])) rfl rfl (hb hby own_dof_16) _ (XS.astore X21.here hx rfl (hb hby own_dof_17) rfl rfl (l' := #[iv p1, rv b1, iv 10, iv 3, rv o3]) rfl (XS.aload X21.here hx rfl (hb hby own_dof_19) rfl rfl k))) ?_
        obtain ⟨T23, X23, e23, st23⟩ := getF X21 hx hZ hown (host := "") (Or.inl (own_h hw 29 rfl)) Via.refl e21 f8 (g := (mkF m 21 #[iv p1, rv b1, iv 10, iv 3, rv o3] [(.ref o3)])) rfl rfl (hb hby own_dof_21)
        refine own_s T23 (mkF m 24 #[iv p1, rv b1, iv 10, iv 3, rv o3] [(.int 40)]) st23 ?_
        refine own_s T23 (mkF m 25 #[iv p1, rv b1, iv 10, iv 3, rv o3] [(.int p1), (.int 40)]) (fun _ k => XS.iloadN X23.here hx rfl (hb hby own_dof_24) rfl  k) ?_
        by_cases c25_4 : (40 : Int32) = p1
        · refine own_s T23 (mkF m 30 #[iv p1, rv b1, iv 10, iv 3, rv o3] [(.ref o3)]) (fun _ k => XS.icmpNo X23.here hx rfl (hb hby own_dof_25) rfl (teq c25_4).2 (XS.aload X23.here hx rfl (hb hby own_dof_28) rfl rfl k)) ?_
          exact own_finA X23 hx hret rfl rfl (hb hby own_dof_30) (own_end (Qv := (own_Qof Z p1 vA kA o0 o1 o2 o3 o4 o5 o6 o7 o8 o9 w h0 n0)) X23 (own_some hret) hlk (by decide) (by decide) e23 ⟨by rw [← hof, own_of, if_neg c25, if_neg c25_2, if_neg c25_3, if_pos c25_4], N1, E1⟩)
        · refine own_s T23 (mkF m 11 #[iv p1, rv b1, iv 10, iv 4, rv o3] [(.int 10), (.int 4)]) (fun _ k => XS.icmpYes X23.here hx rfl (pc0 := 25) (pc' := 31) rfl (hb hby own_dof_25) rfl (feq c25_4).2 (by decide) (by decide) (XS.iinc X23.here hx rfl (hb hby own_dof_31) rfl (l' := #[iv p1, rv b1, iv 10, iv 4, rv o3]) rfl (XS.goto X23.here hx rfl (pc0 := 34) (pc' := 9) rfl (hb hby own_dof_34) (by decide) (by decide) (XS.iloadN X23.here hx rfl (hb hby own_dof_9) rfl  (XS.iloadN X23.here hx rfl (hb hby own_dof_10) rfl  k))))) ?_
          refine own_s T23 (mkF m 16 #[iv p1, rv b1, iv 10, iv 4, rv o3] [(.int 4), (.ref b1)]) (fun _ k => XS.icmpNo X23.here hx rfl (hb hby own_dof_11) rfl (tlt (by decide : ((4 : Int32) < (10 : Int32)))).2.1 (XS.aloadN X23.here hx rfl (hb hby own_dof_14) rfl rfl (XS.iloadN X23.here hx rfl (hb hby own_dof_15) rfl  k))) ?_
          obtain ⟨cl24, Ar24, q24, S24, Nn24, H24, G24⟩ := id V1
          have hin24 : ¬ ((4 : Int32) < 0 ∨ cl24.slots.size ≤ ((4 : Int32)).toNatClampNeg) := (inb_of S24 ⟨by decide, by decide⟩)
          refine own_s T23 (mkF m 21 #[iv p1, rv b1, iv 10, iv 4, rv o4] [(.ref o4)]) (fun _ k => X23.aaload hx (j := (4 : Int32)) (v := (.ref o4)) (own_at e23 Ar24.1) (State.isArrayOf_alike hZ.alike Ar24.2.1) rfl Ar24.2.2 hin24 (Has.at H24 hin24 rfl) (g := (mkF m 16 #[iv p1, rv b1, iv 10, iv 4, rv o3] [(.int 4), (.ref b1)])) rfl rfl (hb hby own_dof_16) _ (XS.astore X23.here hx rfl (hb hby own_dof_17) rfl rfl (l' := #[iv p1, rv b1, iv 10, iv 4, rv o4]) rfl (XS.aload X23.here hx rfl (hb hby own_dof_19) rfl rfl k))) ?_
          obtain ⟨T25, X25, e25, st25⟩ := getF X23 hx hZ hown (host := "") (Or.inl (own_h hw 29 rfl)) Via.refl e23 f9 (g := (mkF m 21 #[iv p1, rv b1, iv 10, iv 4, rv o4] [(.ref o4)])) rfl rfl (hb hby own_dof_21)
          refine own_s T25 (mkF m 24 #[iv p1, rv b1, iv 10, iv 4, rv o4] [(.int 50)]) st25 ?_
          refine own_s T25 (mkF m 25 #[iv p1, rv b1, iv 10, iv 4, rv o4] [(.int p1), (.int 50)]) (fun _ k => XS.iloadN X25.here hx rfl (hb hby own_dof_24) rfl  k) ?_
          by_cases c25_5 : (50 : Int32) = p1
          · refine own_s T25 (mkF m 30 #[iv p1, rv b1, iv 10, iv 4, rv o4] [(.ref o4)]) (fun _ k => XS.icmpNo X25.here hx rfl (hb hby own_dof_25) rfl (teq c25_5).2 (XS.aload X25.here hx rfl (hb hby own_dof_28) rfl rfl k)) ?_
            exact own_finA X25 hx hret rfl rfl (hb hby own_dof_30) (own_end (Qv := (own_Qof Z p1 vA kA o0 o1 o2 o3 o4 o5 o6 o7 o8 o9 w h0 n0)) X25 (own_some hret) hlk (by decide) (by decide) e25 ⟨by rw [← hof, own_of, if_neg c25, if_neg c25_2, if_neg c25_3, if_neg c25_4, if_pos c25_5], N1, E1⟩)
          · refine own_s T25 (mkF m 11 #[iv p1, rv b1, iv 10, iv 5, rv o4] [(.int 10), (.int 5)]) (fun _ k => XS.icmpYes X25.here hx rfl (pc0 := 25) (pc' := 31) rfl (hb hby own_dof_25) rfl (feq c25_5).2 (by decide) (by decide) (XS.iinc X25.here hx rfl (hb hby own_dof_31) rfl (l' := #[iv p1, rv b1, iv 10, iv 5, rv o4]) rfl (XS.goto X25.here hx rfl (pc0 := 34) (pc' := 9) rfl (hb hby own_dof_34) (by decide) (by decide) (XS.iloadN X25.here hx rfl (hb hby own_dof_9) rfl  (XS.iloadN X25.here hx rfl (hb hby own_dof_10) rfl  k))))) ?_
            refine own_s T25 (mkF m 16 #[iv p1, rv b1, iv 10, iv 5, rv o4] [(.int 5), (.ref b1)]) (fun _ k => XS.icmpNo X25.here hx rfl (hb hby own_dof_11) rfl (tlt (by decide : ((5 : Int32) < (10 : Int32)))).2.1 (XS.aloadN X25.here hx rfl (hb hby own_dof_14) rfl rfl (XS.iloadN X25.here hx rfl (hb hby own_dof_15) rfl  k))) ?_
            obtain ⟨cl26, Ar26, q26, S26, Nn26, H26, G26⟩ := id V1
            have hin26 : ¬ ((5 : Int32) < 0 ∨ cl26.slots.size ≤ ((5 : Int32)).toNatClampNeg) := (inb_of S26 ⟨by decide, by decide⟩)
            refine own_s T25 (mkF m 21 #[iv p1, rv b1, iv 10, iv 5, rv o5] [(.ref o5)]) (fun _ k => X25.aaload hx (j := (5 : Int32)) (v := (.ref o5)) (own_at e25 Ar26.1) (State.isArrayOf_alike hZ.alike Ar26.2.1) rfl Ar26.2.2 hin26 (Has.at H26 hin26 rfl) (g := (mkF m 16 #[iv p1, rv b1, iv 10, iv 5, rv o4] [(.int 5), (.ref b1)])) rfl rfl (hb hby own_dof_16) _ (XS.astore X25.here hx rfl (hb hby own_dof_17) rfl rfl (l' := #[iv p1, rv b1, iv 10, iv 5, rv o5]) rfl (XS.aload X25.here hx rfl (hb hby own_dof_19) rfl rfl k))) ?_
            obtain ⟨T27, X27, e27, st27⟩ := getF X25 hx hZ hown (host := "") (Or.inl (own_h hw 29 rfl)) Via.refl e25 f10 (g := (mkF m 21 #[iv p1, rv b1, iv 10, iv 5, rv o5] [(.ref o5)])) rfl rfl (hb hby own_dof_21)
            refine own_s T27 (mkF m 24 #[iv p1, rv b1, iv 10, iv 5, rv o5] [(.int 60)]) st27 ?_
            refine own_s T27 (mkF m 25 #[iv p1, rv b1, iv 10, iv 5, rv o5] [(.int p1), (.int 60)]) (fun _ k => XS.iloadN X27.here hx rfl (hb hby own_dof_24) rfl  k) ?_
            by_cases c25_6 : (60 : Int32) = p1
            · refine own_s T27 (mkF m 30 #[iv p1, rv b1, iv 10, iv 5, rv o5] [(.ref o5)]) (fun _ k => XS.icmpNo X27.here hx rfl (hb hby own_dof_25) rfl (teq c25_6).2 (XS.aload X27.here hx rfl (hb hby own_dof_28) rfl rfl k)) ?_
              exact own_finA X27 hx hret rfl rfl (hb hby own_dof_30) (own_end (Qv := (own_Qof Z p1 vA kA o0 o1 o2 o3 o4 o5 o6 o7 o8 o9 w h0 n0)) X27 (own_some hret) hlk (by decide) (by decide) e27 ⟨by rw [← hof, own_of, if_neg c25, if_neg c25_2, if_neg c25_3, if_neg c25_4, if_neg c25_5, if_pos c25_6], N1, E1⟩)
            · refine own_s T27 (mkF m 11 #[iv p1, rv b1, iv 10, iv 6, rv o5] [(.int 10), (.int 6)]) (fun _ k => XS.icmpYes X27.here hx rfl (pc0 := 25) (pc' := 31) rfl (hb hby own_dof_25) rfl (feq c25_6).2 (by decide) (by decide) (XS.iinc X27.here hx rfl (hb hby own_dof_31) rfl (l' := #[iv p1, rv b1, iv 10, iv 6, rv o5]) rfl (XS.goto X27.here hx rfl (pc0 := 34) (pc' := 9) rfl (hb hby own_dof_34) (by decide) (by decide) (XS.iloadN X27.here hx rfl (hb hby own_dof_9) rfl  (XS.iloadN X27.here hx rfl (hb hby own_dof_10) rfl  k))))) ?_
              refine own_s T27 (mkF m 16 #[iv p1, rv b1, iv 10, iv 6, rv o5] [(.int 6), (.ref b1)]) (fun _ k => XS.icmpNo X27.here hx rfl (hb hby own_dof_11) rfl (tlt (by decide : ((6 : Int32) < (10 : Int32)))).2.1 (XS.aloadN X27.here hx rfl (hb hby own_dof_14) rfl rfl (XS.iloadN X27.here hx rfl (hb hby own_dof_15) rfl  k))) ?_
              obtain ⟨cl28, Ar28, q28, S28, Nn28, H28, G28⟩ := id V1
              have hin28 : ¬ ((6 : Int32) < 0 ∨ cl28.slots.size ≤ ((6 : Int32)).toNatClampNeg) := (inb_of S28 ⟨by decide, by decide⟩)
              refine own_s T27 (mkF m 21 #[iv p1, rv b1, iv 10, iv 6, rv o6] [(.ref o6)]) (fun _ k => X27.aaload hx (j := (6 : Int32)) (v := (.ref o6)) (own_at e27 Ar28.1) (State.isArrayOf_alike hZ.alike Ar28.2.1) rfl Ar28.2.2 hin28 (Has.at H28 hin28 rfl) (g := (mkF m 16 #[iv p1, rv b1, iv 10, iv 6, rv o5] [(.int 6), (.ref b1)])) rfl rfl (hb hby own_dof_16) _ (XS.astore X27.here hx rfl (hb hby own_dof_17) rfl rfl (l' := #[iv p1, rv b1, iv 10, iv 6, rv o6]) rfl (XS.aload X27.here hx rfl (hb hby own_dof_19) rfl rfl k))) ?_
              obtain ⟨T29, X29, e29, st29⟩ := getF X27 hx hZ hown (host := "") (Or.inl (own_h hw 29 rfl)) Via.refl e27 f11 (g := (mkF m 21 #[iv p1, rv b1, iv 10, iv 6, rv o6] [(.ref o6)])) rfl rfl (hb hby own_dof_21)
              refine own_s T29 (mkF m 24 #[iv p1, rv b1, iv 10, iv 6, rv o6] [(.int 70)]) st29 ?_
              refine own_s T29 (mkF m 25 #[iv p1, rv b1, iv 10, iv 6, rv o6] [(.int p1), (.int 70)]) (fun _ k => XS.iloadN X29.here hx rfl (hb hby own_dof_24) rfl  k) ?_
              by_cases c25_7 : (70 : Int32) = p1
              · refine own_s T29 (mkF m 30 #[iv p1, rv b1, iv 10, iv 6, rv o6] [(.ref o6)]) (fun _ k => XS.icmpNo X29.here hx rfl (hb hby own_dof_25) rfl (teq c25_7).2 (XS.aload X29.here hx rfl (hb hby own_dof_28) rfl rfl k)) ?_
                exact own_finA X29 hx hret rfl rfl (hb hby own_dof_30) (own_end (Qv := (own_Qof Z p1 vA kA o0 o1 o2 o3 o4 o5 o6 o7 o8 o9 w h0 n0)) X29 (own_some hret) hlk (by decide) (by decide) e29 ⟨by rw [← hof, own_of, if_neg c25, if_neg c25_2, if_neg c25_3, if_neg c25_4, if_neg c25_5, if_neg c25_6, if_pos c25_7], N1, E1⟩)
              · refine own_s T29 (mkF m 11 #[iv p1, rv b1, iv 10, iv 7, rv o6] [(.int 10), (.int 7)]) (fun _ k => XS.icmpYes X29.here hx rfl (pc0 := 25) (pc' := 31) rfl (hb hby own_dof_25) rfl (feq c25_7).2 (by decide) (by decide) (XS.iinc X29.here hx rfl (hb hby own_dof_31) rfl (l' := #[iv p1, rv b1, iv 10, iv 7, rv o6]) rfl (XS.goto X29.here hx rfl (pc0 := 34) (pc' := 9) rfl (hb hby own_dof_34) (by decide) (by decide) (XS.iloadN X29.here hx rfl (hb hby own_dof_9) rfl  (XS.iloadN X29.here hx rfl (hb hby own_dof_10) rfl  k))))) ?_
                refine own_s T29 (mkF m 16 #[iv p1, rv b1, iv 10, iv 7, rv o6] [(.int 7), (.ref b1)]) (fun _ k => XS.icmpNo X29.here hx rfl (hb hby own_dof_11) rfl (tlt (by decide : ((7 : Int32) < (10 : Int32)))).2.1 (XS.aloadN X29.here hx rfl (hb hby own_dof_14) rfl rfl (XS.iloadN X29.here hx rfl (hb hby own_dof_15) rfl  k))) ?_
                obtain ⟨cl30, Ar30, q30, S30, Nn30, H30, G30⟩ := id V1
                have hin30 : ¬ ((7 : Int32) < 0 ∨ cl30.slots.size ≤ ((7 : Int32)).toNatClampNeg) := (inb_of S30 ⟨by decide, by decide⟩)
                refine own_s T29 (mkF m 21 #[iv p1, rv b1, iv 10, iv 7, rv o7] [(.ref o7)]) (fun _ k => X29.aaload hx (j := (7 : Int32)) (v := (.ref o7)) (own_at e29 Ar30.1) (State.isArrayOf_alike hZ.alike Ar30.2.1) rfl Ar30.2.2 hin30 (Has.at H30 hin30 rfl) (g := (mkF m 16 #[iv p1, rv b1, iv 10, iv 7, rv o6] [(.int 7), (.ref b1)])) rfl rfl (hb hby own_dof_16) _ (XS.astore X29.here hx rfl (hb hby own_dof_17) rfl rfl (l' := #[iv p1, rv b1, iv 10, iv 7, rv o7]) rfl (XS.aload X29.here hx rfl (hb hby own_dof_19) rfl rfl k))) ?_
                obtain ⟨T31, X31, e31, st31⟩ := getF X29 hx hZ hown (host := "") (Or.inl (own_h hw 29 rfl)) Via.refl e29 f12 (g := (mkF m 21 #[iv p1, rv b1, iv 10, iv 7, rv o7] [(.ref o7)])) rfl rfl (hb hby own_dof_21)
                refine own_s T31 (mkF m 24 #[iv p1, rv b1, iv 10, iv 7, rv o7] [(.int 80)]) st31 ?_
                refine own_s T31 (mkF m 25 #[iv p1, rv b1, iv 10, iv 7, rv o7] [(.int p1), (.int 80)]) (fun _ k => XS.iloadN X31.here hx rfl (hb hby own_dof_24) rfl  k) ?_
                by_cases c25_8 : (80 : Int32) = p1
                · refine own_s T31 (mkF m 30 #[iv p1, rv b1, iv 10, iv 7, rv o7] [(.ref o7)]) (fun _ k => XS.icmpNo X31.here hx rfl (hb hby own_dof_25) rfl (teq c25_8).2 (XS.aload X31.here hx rfl (hb hby own_dof_28) rfl rfl k)) ?_
                  exact own_finA X31 hx hret rfl rfl (hb hby own_dof_30) (own_end (Qv := (own_Qof Z p1 vA kA o0 o1 o2 o3 o4 o5 o6 o7 o8 o9 w h0 n0)) X31 (own_some hret) hlk (by decide) (by decide) e31 ⟨by rw [← hof, own_of, if_neg c25, if_neg c25_2, if_neg c25_3, if_neg c25_4, if_neg c25_5, if_neg c25_6, if_neg c25_7, if_pos c25_8], N1, E1⟩)
                · refine own_s T31 (mkF m 11 #[iv p1, rv b1, iv 10, iv 8, rv o7] [(.int 10), (.int 8)]) (fun _ k => XS.icmpYes X31.here hx rfl (pc0 := 25) (pc' := 31) rfl (hb hby own_dof_25) rfl (feq c25_8).2 (by decide) (by decide) (XS.iinc X31.here hx rfl (hb hby own_dof_31) rfl (l' := #[iv p1, rv b1, iv 10, iv 8, rv o7]) rfl (XS.goto X31.here hx rfl (pc0 := 34) (pc' := 9) rfl (hb hby own_dof_34) (by decide) (by decide) (XS.iloadN X31.here hx rfl (hb hby own_dof_9) rfl  (XS.iloadN X31.here hx rfl (hb hby own_dof_10) rfl  k))))) ?_
                  refine own_s T31 (mkF m 16 #[iv p1, rv b1, iv 10, iv 8, rv o7] [(.int 8), (.ref b1)]) (fun _ k => XS.icmpNo X31.here hx rfl (hb hby own_dof_11) rfl (tlt (by decide : ((8 : Int32) < (10 : Int32)))).2.1 (XS.aloadN X31.here hx rfl (hb hby own_dof_14) rfl rfl (XS.iloadN X31.here hx rfl (hb hby own_dof_15) rfl  k))) ?_
                  obtain ⟨cl32, Ar32, q32, S32, Nn32, H32, G32⟩ := id V1
                  have hin32 : ¬ ((8 : Int32) < 0 ∨ cl32.slots.size ≤ ((8 : Int32)).toNatClampNeg) := (inb_of S32 ⟨by decide, by decide⟩)
                  refine own_s T31 (mkF m 21 #[iv p1, rv b1, iv 10, iv 8, rv o8] [(.ref o8)]) (fun _ k => X31.aaload hx (j := (8 : Int32)) (v := (.ref o8)) (own_at e31 Ar32.1) (State.isArrayOf_alike hZ.alike Ar32.2.1) rfl Ar32.2.2 hin32 (Has.at H32 hin32 rfl) (g := (mkF m 16 #[iv p1, rv b1, iv 10, iv 8, rv o7] [(.int 8), (.ref b1)])) rfl rfl (hb hby own_dof_16) _ (XS.astore X31.here hx rfl (hb hby own_dof_17) rfl rfl (l' := #[iv p1, rv b1, iv 10, iv 8, rv o8]) rfl (XS.aload X31.here hx rfl (hb hby own_dof_19) rfl rfl k))) ?_
                  obtain ⟨T33, X33, e33, st33⟩ := getF X31 hx hZ hown (host := "") (Or.inl (own_h hw 29 rfl)) Via.refl e31 f13 (g := (mkF m 21 #[iv p1, rv b1, iv 10, iv 8, rv o8] [(.ref o8)])) rfl rfl (hb hby own_dof_21)
                  refine own_s T33 (mkF m 24 #[iv p1, rv b1, iv 10, iv 8, rv o8] [(.int 90)]) st33 ?_
                  refine own_s T33 (mkF m 25 #[iv p1, rv b1, iv 10, iv 8, rv o8] [(.int p1), (.int 90)]) (fun _ k => XS.iloadN X33.here hx rfl (hb hby own_dof_24) rfl  k) ?_
                  by_cases c25_9 : (90 : Int32) = p1
                  · refine own_s T33 (mkF m 30 #[iv p1, rv b1, iv 10, iv 8, rv o8] [(.ref o8)]) (fun _ k => XS.icmpNo X33.here hx rfl (hb hby own_dof_25) rfl (teq c25_9).2 (XS.aload X33.here hx rfl (hb hby own_dof_28) rfl rfl k)) ?_
                    exact own_finA X33 hx hret rfl rfl (hb hby own_dof_30) (own_end (Qv := (own_Qof Z p1 vA kA o0 o1 o2 o3 o4 o5 o6 o7 o8 o9 w h0 n0)) X33 (own_some hret) hlk (by decide) (by decide) e33 ⟨by rw [← hof, own_of, if_neg c25, if_neg c25_2, if_neg c25_3, if_neg c25_4, if_neg c25_5, if_neg c25_6, if_neg c25_7, if_neg c25_8, if_pos c25_9], N1, E1⟩)
                  · refine own_s T33 (mkF m 11 #[iv p1, rv b1, iv 10, iv 9, rv o8] [(.int 10), (.int 9)]) (fun _ k => XS.icmpYes X33.here hx rfl (pc0 := 25) (pc' := 31) rfl (hb hby own_dof_25) rfl (feq c25_9).2 (by decide) (by decide) (XS.iinc X33.here hx rfl (hb hby own_dof_31) rfl (l' := #[iv p1, rv b1, iv 10, iv 9, rv o8]) rfl (XS.goto X33.here hx rfl (pc0 := 34) (pc' := 9) rfl (hb hby own_dof_34) (by decide) (by decide) (XS.iloadN X33.here hx rfl (hb hby own_dof_9) rfl  (XS.iloadN X33.here hx rfl (hb hby own_dof_10) rfl  k))))) ?_
                    refine own_s T33 (mkF m 16 #[iv p1, rv b1, iv 10, iv 9, rv o8] [(.int 9), (.ref b1)]) (fun _ k => XS.icmpNo X33.here hx rfl (hb hby own_dof_11) rfl (tlt (by decide : ((9 : Int32) < (10 : Int32)))).2.1 (XS.aloadN X33.here hx rfl (hb hby own_dof_14) rfl rfl (XS.iloadN X33.here hx rfl (hb hby own_dof_15) rfl  k))) ?_
                    obtain ⟨cl34, Ar34, q34, S34, Nn34, H34, G34⟩ := id V1
                    have hin34 : ¬ ((9 : Int32) < 0 ∨ cl34.slots.size ≤ ((9 : Int32)).toNatClampNeg) := (inb_of S34 ⟨by decide, by decide⟩)
                    refine own_s T33 (mkF m 21 #[iv p1, rv b1, iv 10, iv 9, rv o9] [(.ref o9)]) (fun _ k => X33.aaload hx (j := (9 : Int32)) (v := (.ref o9)) (own_at e33 Ar34.1) (State.isArrayOf_alike hZ.alike Ar34.2.1) rfl Ar34.2.2 hin34 (Has.at H34 hin34 rfl) (g := (mkF m 16 #[iv p1, rv b1, iv 10, iv 9, rv o8] [(.int 9), (.ref b1)])) rfl rfl (hb hby own_dof_16) _ (XS.astore X33.here hx rfl (hb hby own_dof_17) rfl rfl (l' := #[iv p1, rv b1, iv 10, iv 9, rv o9]) rfl (XS.aload X33.here hx rfl (hb hby own_dof_19) rfl rfl k))) ?_
                    obtain ⟨T35, X35, e35, st35⟩ := getF X33 hx hZ hown (host := "") (Or.inl (own_h hw 29 rfl)) Via.refl e33 f14 (g := (mkF m 21 #[iv p1, rv b1, iv 10, iv 9, rv o9] [(.ref o9)])) rfl rfl (hb hby own_dof_21)
                    refine own_s T35 (mkF m 24 #[iv p1, rv b1, iv 10, iv 9, rv o9] [(.int 100)]) st35 ?_
                    refine own_s T35 (mkF m 25 #[iv p1, rv b1, iv 10, iv 9, rv o9] [(.int p1), (.int 100)]) (fun _ k => XS.iloadN X35.here hx rfl (hb hby own_dof_24) rfl  k) ?_
                    by_cases c25_10 : (100 : Int32) = p1
                    · refine own_s T35 (mkF m 30 #[iv p1, rv b1, iv 10, iv 9, rv o9] [(.ref o9)]) (fun _ k => XS.icmpNo X35.here hx rfl (hb hby own_dof_25) rfl (teq c25_10).2 (XS.aload X35.here hx rfl (hb hby own_dof_28) rfl rfl k)) ?_
                      exact own_finA X35 hx hret rfl rfl (hb hby own_dof_30) (own_end (Qv := (own_Qof Z p1 vA kA o0 o1 o2 o3 o4 o5 o6 o7 o8 o9 w h0 n0)) X35 (own_some hret) hlk (by decide) (by decide) e35 ⟨by rw [← hof, own_of, if_neg c25, if_neg c25_2, if_neg c25_3, if_neg c25_4, if_neg c25_5, if_neg c25_6, if_neg c25_7, if_neg c25_8, if_neg c25_9, if_pos c25_10], N1, E1⟩)
                    · refine own_s T35 (mkF m 11 #[iv p1, rv b1, iv 10, iv 10, rv o9] [(.int 10), (.int 10)]) (fun _ k => XS.icmpYes X35.here hx rfl (pc0 := 25) (pc' := 31) rfl (hb hby own_dof_25) rfl (feq c25_10).2 (by decide) (by decide) (XS.iinc X35.here hx rfl (hb hby own_dof_31) rfl (l' := #[iv p1, rv b1, iv 10, iv 10, rv o9]) rfl (XS.goto X35.here hx rfl (pc0 := 34) (pc' := 9) rfl (hb hby own_dof_34) (by decide) (by decide) (XS.iloadN X35.here hx rfl (hb hby own_dof_9) rfl  (XS.iloadN X35.here hx rfl (hb hby own_dof_10) rfl  k))))) ?_
                      refine own_s T35 (mkF m 38 #[iv p1, rv b1, iv 10, iv 10, rv o9] [.null]) (fun _ k => XS.icmpYes X35.here hx rfl (pc0 := 11) (pc' := 37) rfl (hb hby own_dof_11) rfl (flt (by decide : ¬ ((10 : Int32) < (10 : Int32)))).2.1 (by decide) (by decide) (XS.aconstNull X35.here hx rfl (hb hby own_dof_37) k)) ?_
                      exact own_finA X35 hx hret rfl rfl (hb hby own_dof_38) (own_end (Qv := (own_Qof Z p1 vA kA o0 o1 o2 o3 o4 o5 o6 o7 o8 o9 w h0 n0)) X35 (own_some hret) hlk (by decide) (by decide) e35 ⟨by rw [← hof, own_of, if_neg c25, if_neg c25_2, if_neg c25_3, if_neg c25_4, if_neg c25_5, if_neg c25_6, if_neg c25_7, if_neg c25_8, if_neg c25_9, if_neg c25_10], N1, E1⟩)
abbrev own_y2 : MethodName := ⟨"com/example/tidewire/tidewire/exchange/Status", "code", "()I"⟩
theorem own_dcod_0 : decode prog_9_method_4_code 0 = .ok (.aload_n 0, 1) := by decide +kernel
theorem own_dcod_1 : decode prog_9_method_4_code 1 = .ok (.getfield 53, 3) := by decide +kernel
theorem own_dcod_4 : decode prog_9_method_4_code 4 = .ok (.ireturn, 1) := by decide +kernel
theorem own_efcod (m : MethodId) (x0 : Addr) : entryFrame m #[(.ref x0)] 1 = mkF m 0 #[rv x0] [] := by first | (simp [entryFrame, mkF, argsToLocals, Value.category]; done) | rfl
def own_Qcod (Z : State) (a1 : Addr) (cc : Int32) (h0 : Heap) (n0 : Nat) : Option Value → Heap → List Loc → Prop := fun v h L => v = some (.int cc) ∧ Fr n0 L ∧ h = h0
def own_Rcod : Room := { frames := 0, cells := 0, slots := 0, locals := 0 }
set_option maxRecDepth 65536 in
set_option maxHeartbeats 40000000 in
theorem own_rmcod (l : Launch) (Z : State) (a0 : Array Value) (hw : ∀ d ∈ tables_1, d.before a0 Z = true) (ws : List Jvm.Cond) (a1 : Addr) (cc : Int32) (h0 : Heap) (n0 : Nat) (Z0 : n0 ≤ h0.size) (F1 : Fld Z h0 a1 "com/example/tidewire/tidewire/exchange/Status" "code" "I" (.int cc)) :
    own_Met l Z own_y2 prog_9_method_4_code 1 (some .int) ws own_Rcod h0 #[(.ref a1)] (own_Qcod Z a1 cc h0 n0) own_Rcod.cells own_Rcod.slots := by
  refine own_start (plainFor_of_name own_pn0) ?_
  intro p e s m below meth c s₁ X0 hx hZ hby hml hret hlk hown hnm e0
  have hown : s.vm.findClass "com/example/tidewire/tidewire/exchange/Status" = some m.cls := hown
  have hml : c.maxLocals = 1 := hml
  have N0 := Fr.nil n0
  refine own_cast (own_efcod m a1) ?_
  refine own_s s₁ (mkF m 1 #[rv a1] [(.ref a1)]) (fun _ k => XS.aloadN X0.here hx rfl (hb hby own_dcod_0) rfl rfl k) ?_
  obtain ⟨T1, X1, e1, st1⟩ := getF X0 hx hZ hown (host := "") (Or.inl (own_h hw 29 rfl)) Via.refl e0 F1 (g := (mkF m 1 #[rv a1] [(.ref a1)])) rfl rfl (hb hby own_dcod_1)
  refine own_s T1 (mkF m 4 #[rv a1] [(.int cc)]) st1 ?_
  exact own_finI X1 hx hret (hb hby own_dcod_4) (own_end (Qv := (own_Qcod Z a1 cc h0 n0)) X1 (own_some hret) hlk (by decide) (by decide) e1 ⟨rfl, N0, rfl⟩)
abbrev own_y3 : MethodName := ⟨"com/example/tidewire/tidewire/exchange/StatusOfPinLaw", "pick", "(I)Lcom/example/tidewire/tidewire/exchange/Status;"⟩
theorem own_pn1 : plainName "com/example/tidewire/tidewire/exchange/StatusOfPinLaw" = true := by first | (simp [plainName, overriddenIn]; done) | decide +kernel
theorem own_dpk_0 : decode method_2_code 0 = .ok (.iload_n 0, 1) := by decide +kernel
theorem own_dpk_1 : decode method_2_code 1 = .ok (.ldc 7, 2) := by decide +kernel
theorem own_dpk_3 : decode method_2_code 3 = .ok (.iand, 1) := by decide +kernel
theorem own_dpk_4 : decode method_2_code 4 = .ok (.bipush 10, 2) := by decide +kernel
theorem own_dpk_6 : decode method_2_code 6 = .ok (.irem, 1) := by decide +kernel
theorem own_dpk_7 : decode method_2_code 7 = .ok (.istore_n 1, 1) := by decide +kernel
theorem own_dpk_8 : decode method_2_code 8 = .ok (.iload_n 1, 1) := by decide +kernel
theorem own_dpk_9 : decode method_2_code 9 = .ok (.ifCond .ne 7, 3) := by decide +kernel
theorem own_dpk_12 : decode method_2_code 12 = .ok (.getstatic 8, 3) := by decide +kernel
theorem own_dpk_15 : decode method_2_code 15 = .ok (.areturn, 1) := by decide +kernel
theorem own_dpk_16 : decode method_2_code 16 = .ok (.iload_n 1, 1) := by decide +kernel
theorem own_dpk_17 : decode method_2_code 17 = .ok (.iconst 1, 1) := by decide +kernel
theorem own_dpk_18 : decode method_2_code 18 = .ok (.if_icmp .ne 7, 3) := by decide +kernel
theorem own_dpk_21 : decode method_2_code 21 = .ok (.getstatic 14, 3) := by decide +kernel
theorem own_dpk_24 : decode method_2_code 24 = .ok (.areturn, 1) := by decide +kernel
theorem own_dpk_25 : decode method_2_code 25 = .ok (.iload_n 1, 1) := by decide +kernel
theorem own_dpk_26 : decode method_2_code 26 = .ok (.iconst 2, 1) := by decide +kernel
theorem own_dpk_27 : decode method_2_code 27 = .ok (.if_icmp .ne 7, 3) := by decide +kernel
theorem own_dpk_30 : decode method_2_code 30 = .ok (.getstatic 17, 3) := by decide +kernel
theorem own_dpk_33 : decode method_2_code 33 = .ok (.areturn, 1) := by decide +kernel
theorem own_dpk_34 : decode method_2_code 34 = .ok (.iload_n 1, 1) := by decide +kernel
theorem own_dpk_35 : decode method_2_code 35 = .ok (.iconst 3, 1) := by decide +kernel
theorem own_dpk_36 : decode method_2_code 36 = .ok (.if_icmp .ne 7, 3) := by decide +kernel
theorem own_dpk_39 : decode method_2_code 39 = .ok (.getstatic 20, 3) := by decide +kernel
theorem own_dpk_42 : decode method_2_code 42 = .ok (.areturn, 1) := by decide +kernel
theorem own_dpk_43 : decode method_2_code 43 = .ok (.iload_n 1, 1) := by decide +kernel
theorem own_dpk_44 : decode method_2_code 44 = .ok (.iconst 4, 1) := by decide +kernel
theorem own_dpk_45 : decode method_2_code 45 = .ok (.if_icmp .ne 7, 3) := by decide +kernel
theorem own_dpk_48 : decode method_2_code 48 = .ok (.getstatic 23, 3) := by decide +kernel
theorem own_dpk_51 : decode method_2_code 51 = .ok (.areturn, 1) := by decide +kernel
theorem own_dpk_52 : decode method_2_code 52 = .ok (.iload_n 1, 1) := by decide +kernel
theorem own_dpk_53 : decode method_2_code 53 = .ok (.iconst 5, 1) := by decide +kernel
theorem own_dpk_54 : decode method_2_code 54 = .ok (.if_icmp .ne 7, 3) := by decide +kernel
theorem own_dpk_57 : decode method_2_code 57 = .ok (.getstatic 26, 3) := by decide +kernel
theorem own_dpk_60 : decode method_2_code 60 = .ok (.areturn, 1) := by decide +kernel
theorem own_dpk_61 : decode method_2_code 61 = .ok (.iload_n 1, 1) := by decide +kernel
theorem own_dpk_62 : decode method_2_code 62 = .ok (.bipush 6, 2) := by decide +kernel
theorem own_dpk_64 : decode method_2_code 64 = .ok (.if_icmp .ne 7, 3) := by decide +kernel
theorem own_dpk_67 : decode method_2_code 67 = .ok (.getstatic 29, 3) := by decide +kernel
theorem own_dpk_70 : decode method_2_code 70 = .ok (.areturn, 1) := by decide +kernel
theorem own_dpk_71 : decode method_2_code 71 = .ok (.iload_n 1, 1) := by decide +kernel
theorem own_dpk_72 : decode method_2_code 72 = .ok (.bipush 7, 2) := by decide +kernel
theorem own_dpk_74 : decode method_2_code 74 = .ok (.if_icmp .ne 7, 3) := by decide +kernel
theorem own_dpk_77 : decode method_2_code 77 = .ok (.getstatic 32, 3) := by decide +kernel
theorem own_dpk_80 : decode method_2_code 80 = .ok (.areturn, 1) := by decide +kernel
theorem own_dpk_81 : decode method_2_code 81 = .ok (.iload_n 1, 1) := by decide +kernel
theorem own_dpk_82 : decode method_2_code 82 = .ok (.bipush 8, 2) := by decide +kernel
theorem own_dpk_84 : decode method_2_code 84 = .ok (.if_icmp .ne 7, 3) := by decide +kernel
theorem own_dpk_87 : decode method_2_code 87 = .ok (.getstatic 35, 3) := by decide +kernel
theorem own_dpk_90 : decode method_2_code 90 = .ok (.areturn, 1) := by decide +kernel
theorem own_dpk_91 : decode method_2_code 91 = .ok (.getstatic 38, 3) := by decide +kernel
theorem own_dpk_94 : decode method_2_code 94 = .ok (.areturn, 1) := by decide +kernel
theorem own_efpk (m : MethodId) (x0 : Int32) : entryFrame m #[(.int x0)] 2 = mkF m 0 #[iv x0, u_] [] := by first | (simp [entryFrame, mkF, argsToLocals, Value.category]; done) | rfl
def own_Qpk (Z : State) (p1 : Int32) (o0 o1 o2 o3 o4 o5 o6 o7 o8 o9 : Addr) (h0 : Heap) (n0 : Nat) : Option Value → Heap → List Loc → Prop := fun v h L => (∃ (o : Addr) (cc : Int32), v = some (.ref o) ∧ Exa Z h0 o "com/example/tidewire/tidewire/exchange/Status" ∧ Fld Z h0 o "com/example/tidewire/tidewire/exchange/Status" "code" "I" (.int cc) ∧ own_of cc o0 o1 o2 o3 o4 o5 o6 o7 o8 o9 = .ref o) ∧ Fr n0 L ∧ h = h0
def own_Rpk : Room := { frames := 0, cells := 0, slots := 0, locals := 0 }
set_option maxRecDepth 65536 in
set_option maxHeartbeats 40000000 in
theorem own_rmpk (l : Launch) (Z : State) (a0 : Array Value) (hw : ∀ d ∈ tables_1, d.before a0 Z = true) (ws : List Jvm.Cond) (p1 : Int32) (o0 o1 o2 o3 o4 o5 o6 o7 o8 o9 : Addr) (h0 : Heap) (n0 : Nat) (Z0 : n0 ≤ h0.size) (S0 : Sta Z h0 "com/example/tidewire/tidewire/exchange/Status" "OK" "Lcom/example/tidewire/tidewire/exchange/Status;" (.ref o0)) (S1 : Sta Z h0 "com/example/tidewire/tidewire/exchange/Status" "CLIENT_TIMEOUT" "Lcom/example/tidewire/tidewire/exchange/Status;" (.ref o1)) (S2 : Sta Z h0 "com/example/tidewire/tidewire/exchange/Status" "SERVER_TIMEOUT" "Lcom/example/tidewire/tidewire/exchange/Status;" (.ref o2)) (S3 : Sta Z h0 "com/example/tidewire/tidewire/exchange/Status" "BAD_REQUEST" "Lcom/example/tidewire/tidewire/exchange/Status;" (.ref o3)) (S4 : Sta Z h0 "com/example/tidewire/tidewire/exchange/Status" "BAD_RESPONSE" "Lcom/example/tidewire/tidewire/exchange/Status;" (.ref o4)) (S5 : Sta Z h0 "com/example/tidewire/tidewire/exchange/Status" "SERVICE_NOT_FOUND" "Lcom/example/tidewire/tidewire/exchange/Status;" (.ref o5)) (S6 : Sta Z h0 "com/example/tidewire/tidewire/exchange/Status" "SERVICE_ERROR" "Lcom/example/tidewire/tidewire/exchange/Status;" (.ref o6)) (S7 : Sta Z h0 "com/example/tidewire/tidewire/exchange/Status" "SERVER_ERROR" "Lcom/example/tidewire/tidewire/exchange/Status;" (.ref o7)) (S8 : Sta Z h0 "com/example/tidewire/tidewire/exchange/Status" "CLIENT_ERROR" "Lcom/example/tidewire/tidewire/exchange/Status;" (.ref o8)) (S9 : Sta Z h0 "com/example/tidewire/tidewire/exchange/Status" "SERVER_THREADPOOL_EXHAUSTED_ERROR" "Lcom/example/tidewire/tidewire/exchange/Status;" (.ref o9)) (E0 : Exa Z h0 o0 "com/example/tidewire/tidewire/exchange/Status") (E1 : Exa Z h0 o1 "com/example/tidewire/tidewire/exchange/Status") (E2 : Exa Z h0 o2 "com/example/tidewire/tidewire/exchange/Status") (E3 : Exa Z h0 o3 "com/example/tidewire/tidewire/exchange/Status") (E4 : Exa Z h0 o4 "com/example/tidewire/tidewire/exchange/Status") (E5 : Exa Z h0 o5 "com/example/tidewire/tidewire/exchange/Status") (E6 : Exa Z h0 o6 "com/example/tidewire/tidewire/exchange/Status") (E7 : Exa Z h0 o7 "com/example/tidewire/tidewire/exchange/Status") (E8 : Exa Z h0 o8 "com/example/tidewire/tidewire/exchange/Status") (E9 : Exa Z h0 o9 "com/example/tidewire/tidewire/exchange/Status") (F0 : Fld Z h0 o0 "com/example/tidewire/tidewire/exchange/Status" "code" "I" (.int (20 : Int32))) (F1 : Fld Z h0 o1 "com/example/tidewire/tidewire/exchange/Status" "code" "I" (.int (30 : Int32))) (F2 : Fld Z h0 o2 "com/example/tidewire/tidewire/exchange/Status" "code" "I" (.int (31 : Int32))) (F3 : Fld Z h0 o3 "com/example/tidewire/tidewire/exchange/Status" "code" "I" (.int (40 : Int32))) (F4 : Fld Z h0 o4 "com/example/tidewire/tidewire/exchange/Status" "code" "I" (.int (50 : Int32))) (F5 : Fld Z h0 o5 "com/example/tidewire/tidewire/exchange/Status" "code" "I" (.int (60 : Int32))) (F6 : Fld Z h0 o6 "com/example/tidewire/tidewire/exchange/Status" "code" "I" (.int (70 : Int32))) (F7 : Fld Z h0 o7 "com/example/tidewire/tidewire/exchange/Status" "code" "I" (.int (80 : Int32))) (F8 : Fld Z h0 o8 "com/example/tidewire/tidewire/exchange/Status" "code" "I" (.int (90 : Int32))) (F9 : Fld Z h0 o9 "com/example/tidewire/tidewire/exchange/Status" "code" "I" (.int (100 : Int32))) :
    own_Met l Z own_y3 method_2_code 2 (some (.object "com/example/tidewire/tidewire/exchange/Status")) ws own_Rpk h0 #[(.int p1)] (own_Qpk Z p1 o0 o1 o2 o3 o4 o5 o6 o7 o8 o9 h0 n0) own_Rpk.cells own_Rpk.slots := by
  refine own_start (plainFor_of_name own_pn1) ?_
  intro p e s m below meth c s₁ X0 hx hZ hby hml hret hlk hown hnm e0
  have hown : s.vm.findClass "com/example/tidewire/tidewire/exchange/StatusOfPinLaw" = some m.cls := hown
  have hml : c.maxLocals = 2 := hml
  have N0 := Fr.nil n0
  refine own_cast (own_efpk m p1) ?_
  refine own_s s₁ (mkF m 1 #[iv p1, u_] [(.int p1)]) (fun _ k => XS.iloadN X0.here hx rfl (hb hby own_dpk_0) rfl  k) ?_
  refine own_s s₁ (mkF m 3 #[iv p1, u_] [(.int 2147483647), (.int p1)]) (X0.ldcInt hx hown (mvT hZ (own_h hw 35 rfl)) (g := (mkF m 1 #[iv p1, u_] [(.int p1)])) rfl (hb hby own_dpk_1)) ?_
  refine own_s s₁ (mkF m 9 #[iv p1, iv ((p1 &&& (2147483647 : Int32)) % (10 : Int32))] [(.int ((p1 &&& (2147483647 : Int32)) % (10 : Int32)))]) (fun _ k => XS.iand X0.here hx rfl (hb hby own_dpk_3) rfl (XS.bipush X0.here hx rfl (hb hby own_dpk_4) (iremM X0 hx rfl (hb hby own_dpk_6) rfl (by decide) (XS.istoreN X0.here hx rfl (hb hby own_dpk_7) rfl (l' := #[iv p1, iv ((p1 &&& (2147483647 : Int32)) % (10 : Int32))]) rfl (XS.iloadN X0.here hx rfl (hb hby own_dpk_8) rfl  k))))) ?_
  by_cases c9 : ((p1 &&& (2147483647 : Int32)) % (10 : Int32)) = (0 : Int32)
  · refine own_s s₁ (mkF m 12 #[iv p1, iv ((p1 &&& (2147483647 : Int32)) % (10 : Int32))] []) (fun _ k => XS.ifNo X0.here hx rfl (hb hby own_dpk_9) rfl ((if0 _ _).trans (teq c9).2) k) ?_
    obtain ⟨T1, X1, e1, st1⟩ := getS2 X0 hx hZ hown (host := "") (Or.inl (own_h hw 44 rfl)) Via.refl e0 S0 (g := (mkF m 12 #[iv p1, iv ((p1 &&& (2147483647 : Int32)) % (10 : Int32))] [])) rfl (hb hby own_dpk_12)
    refine own_s T1 (mkF m 15 #[iv p1, iv ((p1 &&& (2147483647 : Int32)) % (10 : Int32))] [(.ref o0)]) st1 ?_
    exact own_finA X1 hx hret rfl rfl (hb hby own_dpk_15) (own_end (Qv := (own_Qpk Z p1 o0 o1 o2 o3 o4 o5 o6 o7 o8 o9 h0 n0)) X1 (own_some hret) hlk (by decide) (by decide) e1 ⟨⟨o0, (20 : Int32), rfl, E0, F0, by simp [own_of]⟩, N0, rfl⟩)
  · refine own_s s₁ (mkF m 18 #[iv p1, iv ((p1 &&& (2147483647 : Int32)) % (10 : Int32))] [(.int 1), (.int ((p1 &&& (2147483647 : Int32)) % (10 : Int32)))]) (fun _ k => XS.ifYes X0.here hx rfl (pc0 := 9) (pc' := 16) rfl (hb hby own_dpk_9) rfl ((if0 _ _).trans (feq c9).2) (by decide) (by decide) (XS.iloadN X0.here hx rfl (hb hby own_dpk_16) rfl  (XS.iconst X0.here hx rfl (hb hby own_dpk_17) k))) ?_
    by_cases c18 : ((p1 &&& (2147483647 : Int32)) % (10 : Int32)) = (1 : Int32)
    · refine own_s s₁ (mkF m 21 #[iv p1, iv ((p1 &&& (2147483647 : Int32)) % (10 : Int32))] []) (fun _ k => XS.icmpNo X0.here hx rfl (hb hby own_dpk_18) rfl (teq c18).2 k) ?_
      obtain ⟨T2, X2, e2, st2⟩ := getS2 X0 hx hZ hown (host := "") (Or.inl (own_h hw 42 rfl)) Via.refl e0 S1 (g := (mkF m 21 #[iv p1, iv ((p1 &&& (2147483647 : Int32)) % (10 : Int32))] [])) rfl (hb hby own_dpk_21)
      refine own_s T2 (mkF m 24 #[iv p1, iv ((p1 &&& (2147483647 : Int32)) % (10 : Int32))] [(.ref o1)]) st2 ?_
      exact own_finA X2 hx hret rfl rfl (hb hby own_dpk_24) (own_end (Qv := (own_Qpk Z p1 o0 o1 o2 o3 o4 o5 o6 o7 o8 o9 h0 n0)) X2 (own_some hret) hlk (by decide) (by decide) e2 ⟨⟨o1, (30 : Int32), rfl, E1, F1, by simp [own_of]⟩, N0, rfl⟩)
    · refine own_s s₁ (mkF m 27 #[iv p1, iv ((p1 &&& (2147483647 : Int32)) % (10 : Int32))] [(.int 2), (.int ((p1 &&& (2147483647 : Int32)) % (10 : Int32)))]) (fun _ k => XS.icmpYes X0.here hx rfl (pc0 := 18) (pc' := 25) rfl (hb hby own_dpk_18) rfl (feq c18).2 (by decide) (by decide) (XS.iloadN X0.here hx rfl (hb hby own_dpk_25) rfl  (XS.iconst X0.here hx rfl (hb hby own_dpk_26) k))) ?_
      by_cases c27 : ((p1 &&& (2147483647 : Int32)) % (10 : Int32)) = (2 : Int32)
      · refine own_s s₁ (mkF m 30 #[iv p1, iv ((p1 &&& (2147483647 : Int32)) % (10 : Int32))] []) (fun _ k => XS.icmpNo X0.here hx rfl (hb hby own_dpk_27) rfl (teq c27).2 k) ?_
        obtain ⟨T3, X3, e3, st3⟩ := getS2 X0 hx hZ hown (host := "") (Or.inl (own_h hw 48 rfl)) Via.refl e0 S2 (g := (mkF m 30 #[iv p1, iv ((p1 &&& (2147483647 : Int32)) % (10 : Int32))] [])) rfl (hb hby own_dpk_30)
        refine own_s T3 (mkF m 33 #[iv p1, iv ((p1 &&& (2147483647 : Int32)) % (10 : Int32))] [(.ref o2)]) st3 ?_
        exact own_finA X3 hx hret rfl rfl (hb hby own_dpk_33) (own_end (Qv := (own_Qpk Z p1 o0 o1 o2 o3 o4 o5 o6 o7 o8 o9 h0 n0)) X3 (own_some hret) hlk (by decide) (by decide) e3 ⟨⟨o2, (31 : Int32), rfl, E2, F2, by simp [own_of]⟩, N0, rfl⟩)
      · refine own_s s₁ (mkF m 36 #[iv p1, iv ((p1 &&& (2147483647 : Int32)) % (10 : Int32))] [(.int 3), (.int ((p1 &&& (2147483647 : Int32)) % (10 : Int32)))]) (fun _ k => XS.icmpYes X0.here hx rfl (pc0 := 27) (pc' := 34) rfl (hb hby own_dpk_27) rfl (feq c27).2 (by decide) (by decide) (XS.iloadN X0.here hx rfl (hb hby own_dpk_34) rfl  (XS.iconst X0.here hx rfl (hb hby own_dpk_35) k))) ?_
        by_cases c36 : ((p1 &&& (2147483647 : Int32)) % (10 : Int32)) = (3 : Int32)
        · refine own_s s₁ (mkF m 39 #[iv p1, iv ((p1 &&& (2147483647 : Int32)) % (10 : Int32))] []) (fun _ k => XS.icmpNo X0.here hx rfl (hb hby own_dpk_36) rfl (teq c36).2 k) ?_
          obtain ⟨T4, X4, e4, st4⟩ := getS2 X0 hx hZ hown (host := "") (Or.inl (own_h hw 36 rfl)) Via.refl e0 S3 (g := (mkF m 39 #[iv p1, iv ((p1 &&& (2147483647 : Int32)) % (10 : Int32))] [])) rfl (hb hby own_dpk_39)
          refine own_s T4 (mkF m 42 #[iv p1, iv ((p1 &&& (2147483647 : Int32)) % (10 : Int32))] [(.ref o3)]) st4 ?_
          exact own_finA X4 hx hret rfl rfl (hb hby own_dpk_42) (own_end (Qv := (own_Qpk Z p1 o0 o1 o2 o3 o4 o5 o6 o7 o8 o9 h0 n0)) X4 (own_some hret) hlk (by decide) (by decide) e4 ⟨⟨o3, (40 : Int32), rfl, E3, F3, by simp [own_of]⟩, N0, rfl⟩)
        · refine own_s s₁ (mkF m 45 #[iv p1, iv ((p1 &&& (2147483647 : Int32)) % (10 : Int32))] [(.int 4), (.int ((p1 &&& (2147483647 : Int32)) % (10 : Int32)))]) (fun _ k => XS.icmpYes X0.here hx rfl (pc0 := 36) (pc' := 43) rfl (hb hby own_dpk_36) rfl (feq c36).2 (by decide) (by decide) (XS.iloadN X0.here hx rfl (hb hby own_dpk_43) rfl  (XS.iconst X0.here hx rfl (hb hby own_dpk_44) k))) ?_
          by_cases c45 : ((p1 &&& (2147483647 : Int32)) % (10 : Int32)) = (4 : Int32)
          · refine own_s s₁ (mkF m 48 #[iv p1, iv ((p1 &&& (2147483647 : Int32)) % (10 : Int32))] []) (fun _ k => XS.icmpNo X0.here hx rfl (hb hby own_dpk_45) rfl (teq c45).2 k) ?_
            obtain ⟨T5, X5, e5, st5⟩ := getS2 X0 hx hZ hown (host := "") (Or.inl (own_h hw 49 rfl)) Via.refl e0 S4 (g := (mkF m 48 #[iv p1, iv ((p1 &&& (2147483647 : Int32)) % (10 : Int32))] [])) rfl (hb hby own_dpk_48)
            refine own_s T5 (mkF m 51 #[iv p1, iv ((p1 &&& (2147483647 : Int32)) % (10 : Int32))] [(.ref o4)]) st5 ?_
            exact own_finA X5 hx hret rfl rfl (hb hby own_dpk_51) (own_end (Qv := (own_Qpk Z p1 o0 o1 o2 o3 o4 o5 o6 o7 o8 o9 h0 n0)) X5 (own_some hret) hlk (by decide) (by decide) e5 ⟨⟨o4, (50 : Int32), rfl, E4, F4, by simp [own_of]⟩, N0, rfl⟩)
          · refine own_s s₁ (mkF m 54 #[iv p1, iv ((p1 &&& (2147483647 : Int32)) % (10 : Int32))] [(.int 5), (.int ((p1 &&& (2147483647 : Int32)) % (10 : Int32)))]) (fun _ k => XS.icmpYes X0.here hx rfl (pc0 := 45) (pc' := 52) rfl (hb hby own_dpk_45) rfl (feq c45).2 (by decide) (by decide) (XS.iloadN X0.here hx rfl (hb hby own_dpk_52) rfl  (XS.iconst X0.here hx rfl (hb hby own_dpk_53) k))) ?_
            by_cases c54 : ((p1 &&& (2147483647 : Int32)) % (10 : Int32)) = (5 : Int32)
            · refine own_s s₁ (mkF m 57 #[iv p1, iv ((p1 &&& (2147483647 : Int32)) % (10 : Int32))] []) (fun _ k => XS.icmpNo X0.here hx rfl (hb hby own_dpk_54) rfl (teq c54).2 k) ?_
              obtain ⟨T6, X6, e6, st6⟩ := getS2 X0 hx hZ hown (host := "") (Or.inl (own_h hw 46 rfl)) Via.refl e0 S5 (g := (mkF m 57 #[iv p1, iv ((p1 &&& (2147483647 : Int32)) % (10 : Int32))] [])) rfl (hb hby own_dpk_57)
              refine own_s T6 (mkF m 60 #[iv p1, iv ((p1 &&& (2147483647 : Int32)) % (10 : Int32))] [(.ref o5)]) st6 ?_
              exact own_finA X6 hx hret rfl rfl (hb hby own_dpk_60) (own_end (Qv := (own_Qpk Z p1 o0 o1 o2 o3 o4 o5 o6 o7 o8 o9 h0 n0)) X6 (own_some hret) hlk (by decide) (by decide) e6 ⟨⟨o5, (60 : Int32), rfl, E5, F5, by simp [own_of]⟩, N0, rfl⟩)
            · refine own_s s₁ (mkF m 64 #[iv p1, iv ((p1 &&& (2147483647 : Int32)) % (10 : Int32))] [(.int 6), (.int ((p1 &&& (2147483647 : Int32)) % (10 : Int32)))]) (fun _ k => XS.icmpYes X0.here hx rfl (pc0 := 54) (pc' := 61) rfl (hb hby own_dpk_54) rfl (feq c54).2 (by decide) (by decide) (XS.iloadN X0.here hx rfl (hb hby own_dpk_61) rfl  (XS.bipush X0.here hx rfl (hb hby own_dpk_62) k))) ?_
              by_cases c64 : ((p1 &&& (2147483647 : Int32)) % (10 : Int32)) = (6 : Int32)
              · refine own_s s₁ (mkF m 67 #[iv p1, iv ((p1 &&& (2147483647 : Int32)) % (10 : Int32))] []) (fun _ k => XS.icmpNo X0.here hx rfl (hb hby own_dpk_64) rfl (teq c64).2 k) ?_
                obtain ⟨T7, X7, e7, st7⟩ := getS2 X0 hx hZ hown (host := "") (Or.inl (own_h hw 43 rfl)) Via.refl e0 S6 (g := (mkF m 67 #[iv p1, iv ((p1 &&& (2147483647 : Int32)) % (10 : Int32))] [])) rfl (hb hby own_dpk_67)
                refine own_s T7 (mkF m 70 #[iv p1, iv ((p1 &&& (2147483647 : Int32)) % (10 : Int32))] [(.ref o6)]) st7 ?_
                exact own_finA X7 hx hret rfl rfl (hb hby own_dpk_70) (own_end (Qv := (own_Qpk Z p1 o0 o1 o2 o3 o4 o5 o6 o7 o8 o9 h0 n0)) X7 (own_some hret) hlk (by decide) (by decide) e7 ⟨⟨o6, (70 : Int32), rfl, E6, F6, by simp [own_of]⟩, N0, rfl⟩)
              · refine own_s s₁ (mkF m 74 #[iv p1, iv ((p1 &&& (2147483647 : Int32)) % (10 : Int32))] [(.int 7), (.int ((p1 &&& (2147483647 : Int32)) % (10 : Int32)))]) (fun _ k => XS.icmpYes X0.here hx rfl (pc0 := 64) (pc' := 71) rfl (hb hby own_dpk_64) rfl (feq c64).2 (by decide) (by decide) (XS.iloadN X0.here hx rfl (hb hby own_dpk_71) rfl  (XS.bipush X0.here hx rfl (hb hby own_dpk_72) k))) ?_
                by_cases c74 : ((p1 &&& (2147483647 : Int32)) % (10 : Int32)) = (7 : Int32)
                · refine own_s s₁ (mkF m 77 #[iv p1, iv ((p1 &&& (2147483647 : Int32)) % (10 : Int32))] []) (fun _ k => XS.icmpNo X0.here hx rfl (hb hby own_dpk_74) rfl (teq c74).2 k) ?_
                  obtain ⟨T8, X8, e8, st8⟩ := getS2 X0 hx hZ hown (host := "") (Or.inl (own_h hw 45 rfl)) Via.refl e0 S7 (g := (mkF m 77 #[iv p1, iv ((p1 &&& (2147483647 : Int32)) % (10 : Int32))] [])) rfl (hb hby own_dpk_77)
                  refine own_s T8 (mkF m 80 #[iv p1, iv ((p1 &&& (2147483647 : Int32)) % (10 : Int32))] [(.ref o7)]) st8 ?_
                  exact own_finA X8 hx hret rfl rfl (hb hby own_dpk_80) (own_end (Qv := (own_Qpk Z p1 o0 o1 o2 o3 o4 o5 o6 o7 o8 o9 h0 n0)) X8 (own_some hret) hlk (by decide) (by decide) e8 ⟨⟨o7, (80 : Int32), rfl, E7, F7, by simp [own_of]⟩, N0, rfl⟩)
                · refine own_s s₁ (mkF m 84 #[iv p1, iv ((p1 &&& (2147483647 : Int32)) % (10 : Int32))] [(.int 8), (.int ((p1 &&& (2147483647 : Int32)) % (10 : Int32)))]) (fun _ k => XS.icmpYes X0.here hx rfl (pc0 := 74) (pc' := 81) rfl (hb hby own_dpk_74) rfl (feq c74).2 (by decide) (by decide) (XS.iloadN X0.here hx rfl (hb hby own_dpk_81) rfl  (XS.bipush X0.here hx rfl (hb hby own_dpk_82) k))) ?_
                  by_cases c84 : ((p1 &&& (2147483647 : Int32)) % (10 : Int32)) = (8 : Int32)
                  · refine own_s s₁ (mkF m 87 #[iv p1, iv ((p1 &&& (2147483647 : Int32)) % (10 : Int32))] []) (fun _ k => XS.icmpNo X0.here hx rfl (hb hby own_dpk_84) rfl (teq c84).2 k) ?_
                    obtain ⟨T9, X9, e9, st9⟩ := getS2 X0 hx hZ hown (host := "") (Or.inl (own_h hw 50 rfl)) Via.refl e0 S8 (g := (mkF m 87 #[iv p1, iv ((p1 &&& (2147483647 : Int32)) % (10 : Int32))] [])) rfl (hb hby own_dpk_87)
                    refine own_s T9 (mkF m 90 #[iv p1, iv ((p1 &&& (2147483647 : Int32)) % (10 : Int32))] [(.ref o8)]) st9 ?_
                    exact own_finA X9 hx hret rfl rfl (hb hby own_dpk_90) (own_end (Qv := (own_Qpk Z p1 o0 o1 o2 o3 o4 o5 o6 o7 o8 o9 h0 n0)) X9 (own_some hret) hlk (by decide) (by decide) e9 ⟨⟨o8, (90 : Int32), rfl, E8, F8, by simp [own_of]⟩, N0, rfl⟩)
                  · refine own_s s₁ (mkF m 91 #[iv p1, iv ((p1 &&& (2147483647 : Int32)) % (10 : Int32))] []) (fun _ k => XS.icmpYes X0.here hx rfl (pc0 := 84) (pc' := 91) rfl (hb hby own_dpk_84) rfl (feq c84).2 (by decide) (by decide) k) ?_
                    obtain ⟨T10, X10, e10, st10⟩ := getS2 X0 hx hZ hown (host := "") (Or.inl (own_h hw 47 rfl)) Via.refl e0 S9 (g := (mkF m 91 #[iv p1, iv ((p1 &&& (2147483647 : Int32)) % (10 : Int32))] [])) rfl (hb hby own_dpk_91)
                    refine own_s T10 (mkF m 94 #[iv p1, iv ((p1 &&& (2147483647 : Int32)) % (10 : Int32))] [(.ref o9)]) st10 ?_
                    exact own_finA X10 hx hret rfl rfl (hb hby own_dpk_94) (own_end (Qv := (own_Qpk Z p1 o0 o1 o2 o3 o4 o5 o6 o7 o8 o9 h0 n0)) X10 (own_some hret) hlk (by decide) (by decide) e10 ⟨⟨o9, (100 : Int32), rfl, E9, F9, by simp [own_of]⟩, N0, rfl⟩)
theorem own_pd1 : parseMethodDescriptor "(I)Lcom/example/tidewire/tidewire/exchange/Status;" = some ⟨[.int], some (.object "com/example/tidewire/tidewire/exchange/Status")⟩ := by decide +kernel
theorem own_pd2 : parseMethodDescriptor "()I" = some ⟨[], some .int⟩ := by decide +kernel
theorem own_ef0 (m : MethodId) (x0 : Int32) (x1 : Int32) : entryFrame m #[(.int x0), (.int x1)] maxLocals = mkF m 0 #[iv x0, iv x1, u_, u_, u_, u_, u_] [] := by first | (simp [entryFrame, mkF, argsToLocals, Value.category, maxLocals]; done) | rfl
def own_Q0 (Z : State) (p1 : Int32) (p2 : Int32) (vA : Addr) (kA : ClassId) (o0 o1 o2 o3 o4 o5 o6 o7 o8 o9 : Addr) (h0 : Heap) (n0 : Nat) : Option Value → Heap → List Loc → Prop := fun v h L => v = some (.int 1) ∧ Fr n0 L
set_option maxRecDepth 65536 in
set_option maxHeartbeats 40000000 in
theorem own_rm0 (l : Launch) (Z : State) (a0 : Array Value) (hw : ∀ d ∈ tables_1, d.before a0 Z = true) (ws : List Jvm.Cond) (p1 : Int32) (p2 : Int32) (vA : Addr) (kA : ClassId) (o0 o1 o2 o3 o4 o5 o6 o7 o8 o9 : Addr) (h0 : Heap) (n0 : Nat) (Z0 : n0 ≤ h0.size) (VV : Arv Z h0 vA kA (.object "com/example/tidewire/tidewire/exchange/Status") (10 : Int32) [(.ref o0), (.ref o1), (.ref o2), (.ref o3), (.ref o4), (.ref o5), (.ref o6), (.ref o7), (.ref o8), (.ref o9)] .null) (EV : Exa Z h0 vA "[Lcom/example/tidewire/tidewire/exchange/Status;") (SV : Sta Z h0 "com/example/tidewire/tidewire/exchange/Status" "$VALUES" "[Lcom/example/tidewire/tidewire/exchange/Status;" (.ref vA)) (S0 : Sta Z h0 "com/example/tidewire/tidewire/exchange/Status" "OK" "Lcom/example/tidewire/tidewire/exchange/Status;" (.ref o0)) (S1 : Sta Z h0 "com/example/tidewire/tidewire/exchange/Status" "CLIENT_TIMEOUT" "Lcom/example/tidewire/tidewire/exchange/Status;" (.ref o1)) (S2 : Sta Z h0 "com/example/tidewire/tidewire/exchange/Status" "SERVER_TIMEOUT" "Lcom/example/tidewire/tidewire/exchange/Status;" (.ref o2)) (S3 : Sta Z h0 "com/example/tidewire/tidewire/exchange/Status" "BAD_REQUEST" "Lcom/example/tidewire/tidewire/exchange/Status;" (.ref o3)) (S4 : Sta Z h0 "com/example/tidewire/tidewire/exchange/Status" "BAD_RESPONSE" "Lcom/example/tidewire/tidewire/exchange/Status;" (.ref o4)) (S5 : Sta Z h0 "com/example/tidewire/tidewire/exchange/Status" "SERVICE_NOT_FOUND" "Lcom/example/tidewire/tidewire/exchange/Status;" (.ref o5)) (S6 : Sta Z h0 "com/example/tidewire/tidewire/exchange/Status" "SERVICE_ERROR" "Lcom/example/tidewire/tidewire/exchange/Status;" (.ref o6)) (S7 : Sta Z h0 "com/example/tidewire/tidewire/exchange/Status" "SERVER_ERROR" "Lcom/example/tidewire/tidewire/exchange/Status;" (.ref o7)) (S8 : Sta Z h0 "com/example/tidewire/tidewire/exchange/Status" "CLIENT_ERROR" "Lcom/example/tidewire/tidewire/exchange/Status;" (.ref o8)) (S9 : Sta Z h0 "com/example/tidewire/tidewire/exchange/Status" "SERVER_THREADPOOL_EXHAUSTED_ERROR" "Lcom/example/tidewire/tidewire/exchange/Status;" (.ref o9)) (E0 : Exa Z h0 o0 "com/example/tidewire/tidewire/exchange/Status") (E1 : Exa Z h0 o1 "com/example/tidewire/tidewire/exchange/Status") (E2 : Exa Z h0 o2 "com/example/tidewire/tidewire/exchange/Status") (E3 : Exa Z h0 o3 "com/example/tidewire/tidewire/exchange/Status") (E4 : Exa Z h0 o4 "com/example/tidewire/tidewire/exchange/Status") (E5 : Exa Z h0 o5 "com/example/tidewire/tidewire/exchange/Status") (E6 : Exa Z h0 o6 "com/example/tidewire/tidewire/exchange/Status") (E7 : Exa Z h0 o7 "com/example/tidewire/tidewire/exchange/Status") (E8 : Exa Z h0 o8 "com/example/tidewire/tidewire/exchange/Status") (E9 : Exa Z h0 o9 "com/example/tidewire/tidewire/exchange/Status") (F0 : Fld Z h0 o0 "com/example/tidewire/tidewire/exchange/Status" "code" "I" (.int (20 : Int32))) (F1 : Fld Z h0 o1 "com/example/tidewire/tidewire/exchange/Status" "code" "I" (.int (30 : Int32))) (F2 : Fld Z h0 o2 "com/example/tidewire/tidewire/exchange/Status" "code" "I" (.int (31 : Int32))) (F3 : Fld Z h0 o3 "com/example/tidewire/tidewire/exchange/Status" "code" "I" (.int (40 : Int32))) (F4 : Fld Z h0 o4 "com/example/tidewire/tidewire/exchange/Status" "code" "I" (.int (50 : Int32))) (F5 : Fld Z h0 o5 "com/example/tidewire/tidewire/exchange/Status" "code" "I" (.int (60 : Int32))) (F6 : Fld Z h0 o6 "com/example/tidewire/tidewire/exchange/Status" "code" "I" (.int (70 : Int32))) (F7 : Fld Z h0 o7 "com/example/tidewire/tidewire/exchange/Status" "code" "I" (.int (80 : Int32))) (F8 : Fld Z h0 o8 "com/example/tidewire/tidewire/exchange/Status" "code" "I" (.int (90 : Int32))) (F9 : Fld Z h0 o9 "com/example/tidewire/tidewire/exchange/Status" "code" "I" (.int (100 : Int32))) :
    own_Met l Z x code maxLocals ret ws room_1 h0 #[(.int p1), (.int p2)] (own_Q0 Z p1 p2 vA kA o0 o1 o2 o3 o4 o5 o6 o7 o8 o9 h0 n0) 16 128 := by
  refine own_start (plainFor_of_name own_pn1) ?_
  intro p e s m below meth c s₁ X0 hx hZ hby hml hret hlk hown hnm e0
  have hown : s.vm.findClass "com/example/tidewire/tidewire/exchange/StatusOfPinLaw" = some m.cls := hown
  have hml : c.maxLocals = 7 := hml
  have N0 := Fr.nil n0
  refine own_cast (own_ef0 m p1 p2) ?_
  have J108 : ∀ (j2 : Int32) (j3 : Value) (Tj : State) (Lj : List Loc) (hj : Heap), Stand p l e room_1 s m #[(.int p1), (.int p2)] below meth c Tj Lj (0 + own_Rof.cells) (0 + own_Rof.slots) → Tj.heap = hj → Fr n0 Lj → n0 ≤ hj.size → Arv Z hj vA kA (.object "com/example/tidewire/tidewire/exchange/Status") (10 : Int32) [(.ref o0), (.ref o1), (.ref o2), (.ref o3), (.ref o4), (.ref o5), (.ref o6), (.ref o7), (.ref o8), (.ref o9)] .null → Exa Z hj vA "[Lcom/example/tidewire/tidewire/exchange/Status;" → Sta Z hj "com/example/tidewire/tidewire/exchange/Status" "$VALUES" "[Lcom/example/tidewire/tidewire/exchange/Status;" (.ref vA) → Sta Z hj "com/example/tidewire/tidewire/exchange/Status" "OK" "Lcom/example/tidewire/tidewire/exchange/Status;" (.ref o0) → Sta Z hj "com/example/tidewire/tidewire/exchange/Status" "CLIENT_TIMEOUT" "Lcom/example/tidewire/tidewire/exchange/Status;" (.ref o1) → Sta Z hj "com/example/tidewire/tidewire/exchange/Status" "SERVER_TIMEOUT" "Lcom/example/tidewire/tidewire/exchange/Status;" (.ref o2) → Sta Z hj "com/example/tidewire/tidewire/exchange/Status" "BAD_REQUEST" "Lcom/example/tidewire/tidewire/exchange/Status;" (.ref o3) → Sta Z hj "com/example/tidewire/tidewire/exchange/Status" "BAD_RESPONSE" "Lcom/example/tidewire/tidewire/exchange/Status;" (.ref o4) → Sta Z hj "com/example/tidewire/tidewire/exchange/Status" "SERVICE_NOT_FOUND" "Lcom/example/tidewire/tidewire/exchange/Status;" (.ref o5) → Sta Z hj "com/example/tidewire/tidewire/exchange/Status" "SERVICE_ERROR" "Lcom/example/tidewire/tidewire/exchange/Status;" (.ref o6) → Sta Z hj "com/example/tidewire/tidewire/exchange/Status" "SERVER_ERROR" "Lcom/example/tidewire/tidewire/exchange/Status;" (.ref o7) → Sta Z hj "com/example/tidewire/tidewire/exchange/Status" "CLIENT_ERROR" "Lcom/example/tidewire/tidewire/exchange/Status;" (.ref o8) → Sta Z hj "com/example/tidewire/tidewire/exchange/Status" "SERVER_THREADPOOL_EXHAUSTED_ERROR" "Lcom/example/tidewire/tidewire/exchange/Status;" (.ref o9) → Exa Z hj o0 "com/example/tidewire/tidewire/exchange/Status" → Exa Z hj o1 "com/example/tidewire/tidewire/exchange/Status" → Exa Z hj o2 "com/example/tidewire/tidewire/exchange/Status" → Exa Z hj o3 "com/example/tidewire/tidewire/exchange/Status" → Exa Z hj o4 "com/example/tidewire/tidewire/exchange/Status" → Exa Z hj o5 "com/example/tidewire/tidewire/exchange/Status" → Exa Z hj o6 "com/example/tidewire/tidewire/exchange/Status" → Exa Z hj o7 "com/example/tidewire/tidewire/exchange/Status" → Exa Z hj o8 "com/example/tidewire/tidewire/exchange/Status" → Exa Z hj o9 "com/example/tidewire/tidewire/exchange/Status" → Fld Z hj o0 "com/example/tidewire/tidewire/exchange/Status" "code" "I" (.int 20) → Fld Z hj o1 "com/example/tidewire/tidewire/exchange/Status" "code" "I" (.int 30) → Fld Z hj o2 "com/example/tidewire/tidewire/exchange/Status" "code" "I" (.int 31) → Fld Z hj o3 "com/example/tidewire/tidewire/exchange/Status" "code" "I" (.int 40) → Fld Z hj o4 "com/example/tidewire/tidewire/exchange/Status" "code" "I" (.int 50) → Fld Z hj o5 "com/example/tidewire/tidewire/exchange/Status" "code" "I" (.int 60) → Fld Z hj o6 "com/example/tidewire/tidewire/exchange/Status" "code" "I" (.int 70) → Fld Z hj o7 "com/example/tidewire/tidewire/exchange/Status" "code" "I" (.int 80) → Fld Z hj o8 "com/example/tidewire/tidewire/exchange/Status" "code" "I" (.int 90) → Fld Z hj o9 "com/example/tidewire/tidewire/exchange/Status" "code" "I" (.int 100) → own_Go p e below (own_Post (own_Q0 Z p1 p2 vA kA o0 o1 o2 o3 o4 o5 o6 o7 o8 o9 h0 n0) 16 128 s) Tj (mkF m 108 #[iv p1, iv p2, iv j2, .val j3, iv 1, u_, u_] []) := by
    intro j2 j3 Tj Lj hj Xj ej Nj Zj fj0 fj1 fj2 fj3 fj4 fj5 fj6 fj7 fj8 fj9 fj10 fj11 fj12 fj13 fj14 fj15 fj16 fj17 fj18 fj19 fj20 fj21 fj22 fj23 fj24 fj25 fj26 fj27 fj28 fj29 fj30 fj31 fj32
    refine own_s Tj (mkF m 109 #[iv p1, iv p2, iv j2, .val j3, iv 1, u_, u_] [(.int p2)]) (fun _ k => XS.iloadN Xj.here hx rfl (hb hby at_108) rfl  k) ?_
    obtain ⟨v1, T1, L1, X1, hQ1, st1⟩ := own_callS Xj hx hZ (y := own_y3) (W := 0) hown (own_h hw 31 rfl) (own_h hw 32 rfl) (own_h hw 33 rfl) (own_h hw 34 rfl) (by decide) (own_rmpk l Z a0 hw [] p2 o0 o1 o2 o3 o4 o5 o6 o7 o8 o9 hj n0 Zj fj3 fj4 fj5 fj6 fj7 fj8 fj9 fj10 fj11 fj12 fj13 fj14 fj15 fj16 fj17 fj18 fj19 fj20 fj21 fj22 fj23 fj24 fj25 fj26 fj27 fj28 fj29 fj30 fj31 fj32) (by decide) (by decide) (g := (mkF m 109 #[iv p1, iv p2, iv j2, .val j3, iv 1, u_, u_] [(.int p2)])) rfl (by rw [hml]; rfl) (argsL := [(.int p2)]) (rest := []) rfl (lenOf own_pd1 rfl) rfl (by show 2 * 0 + _ ≤ _; exact Nat.le_of_eq rfl) (hb hby at_109) ej (by decide) (by decide)
    obtain ⟨⟨po1, cc1, rfl, pe1, pf1, ph1⟩, Nq1, e1⟩ := hQ1
    have N1 := Fr.app Nj Nq1
    refine own_s T1 (mkF m 112 #[iv p1, iv p2, iv j2, .val j3, iv 1, u_, u_] [(.ref po1)]) st1 ?_
    refine own_s T1 (mkF m 116 #[iv p1, iv p2, iv j2, .val j3, iv 1, rv po1, u_] [(.ref po1)]) (fun _ k => XS.astore X1.here hx rfl (hb hby at_112) rfl rfl (l' := #[iv p1, iv p2, iv j2, .val j3, iv 1, rv po1, u_]) rfl (XS.aload X1.here hx rfl (hb hby at_114) rfl rfl k)) ?_
    obtain ⟨v2, T2, L2, X2, hQ2, st2⟩ := own_callV X1 hx hZ (y := own_y2) (z := own_y2) (W := 0) (a := po1) hown (own_h hw 37 rfl) (own_h hw 38 rfl) (notFace_of_selects (args := #[]) (mvT hZ (own_h hw 40 rfl))) (own_h hw 40 rfl) (own_h hw 39 rfl) (own_h hw 2 rfl) (own_h hw 41 rfl) (by decide) (own_rmcod l Z a0 hw [] po1 cc1 hj n0 Zj pf1) (by decide) (by decide) pe1 (g := (mkF m 116 #[iv p1, iv p2, iv j2, .val j3, iv 1, rv po1, u_] [(.ref po1)])) rfl (by rw [hml]; rfl) (argsL := []) (rest := []) rfl (lenOf own_pd2 rfl) rfl (by show 2 * 0 + _ ≤ _; exact Nat.le_of_eq rfl) (hb hby at_116) e1 (by decide) (by decide)
    obtain ⟨rfl, Nq2, e2⟩ := hQ2
    have N2 := Fr.app N1 Nq2
    refine own_s T2 (mkF m 119 #[iv p1, iv p2, iv j2, .val j3, iv 1, rv po1, u_] [(.int cc1)]) st2 ?_
    obtain ⟨v3, T3, L3, X3, hQ3, st3⟩ := own_callS X2 hx hZ (y := own_y1) (W := 0) hown (own_h hw 0 rfl) (own_h hw 1 rfl) (own_h hw 2 rfl) (own_h hw 3 rfl) (by decide) (own_rmof l Z a0 hw [] cc1 vA kA o0 o1 o2 o3 o4 o5 o6 o7 o8 o9 (.ref po1) hj n0 Zj fj0 fj1 fj2 fj23 fj24 fj25 fj26 fj27 fj28 fj29 fj30 fj31 fj32 ph1) (by decide) (by decide) (g := (mkF m 119 #[iv p1, iv p2, iv j2, .val j3, iv 1, rv po1, u_] [(.int cc1)])) rfl (by rw [hml]; rfl) (argsL := [(.int cc1)]) (rest := []) rfl (lenOf own_pd1 rfl) rfl (by show 2 * 0 + _ ≤ _; exact Nat.le_of_eq rfl) (hb hby at_119) e2 (by decide) (by decide)
    obtain ⟨rfl, Nq3, E3⟩ := hQ3
    have N3 := Fr.app N2 Nq3
    have f4 := fj0.ext E3
    have f5 := Exa.ext E3 fj1
    have f6 := Sta.ext E3 fj2
    have f7 := Sta.ext E3 fj3
    have f8 := Sta.ext E3 fj4
    have f9 := Sta.ext E3 fj5
    have f10 := Sta.ext E3 fj6
    have f11 := Sta.ext E3 fj7
    have f12 := Sta.ext E3 fj8
    have f13 := Sta.ext E3 fj9
    have f14 := Sta.ext E3 fj10
    have f15 := Sta.ext E3 fj11
    have f16 := Sta.ext E3 fj12
    have f17 := Exa.ext E3 fj13
    have f18 := Exa.ext E3 fj14
    have f19 := Exa.ext E3 fj15
    have f20 := Exa.ext E3 fj16
    have f21 := Exa.ext E3 fj17
    have f22 := Exa.ext E3 fj18
    have f23 := Exa.ext E3 fj19
    have f24 := Exa.ext E3 fj20
    have f25 := Exa.ext E3 fj21
    have f26 := Exa.ext E3 fj22
    have f27 := Fld.ext E3 fj23
    have f28 := Fld.ext E3 fj24
    have f29 := Fld.ext E3 fj25
    have f30 := Fld.ext E3 fj26
    have f31 := Fld.ext E3 fj27
    have f32 := Fld.ext E3 fj28
    have f33 := Fld.ext E3 fj29
    have f34 := Fld.ext E3 fj30
    have f35 := Fld.ext E3 fj31
    have f36 := Fld.ext E3 fj32
    have f37 := Exa.ext E3 pe1
    have f38 := Fld.ext E3 pf1
    have Z3 := Nat.le_trans Zj E3.1
    refine own_s T3 (mkF m 122 #[iv p1, iv p2, iv j2, .val j3, iv 1, rv po1, u_] [(.ref po1)]) st3 ?_
    refine own_s T3 (mkF m 134 #[iv p1, iv p2, iv j2, .val j3, iv 1, rv po1, iv 1] []) (fun _ k => XS.aload X3.here hx rfl (hb hby at_122) rfl rfl (Jvm.RoadKit.acmp (g := (mkF m 124 #[iv p1, iv p2, iv j2, .val j3, iv 1, rv po1, u_] [(.ref po1), (.ref po1)])) X3 hx rfl rfl rfl (pc0 := 124) (pc' := 127) (same := true) rfl (hb hby at_124) rfl (decide_eq_true rfl) (by decide) (by decide) (XS.iconst X3.here hx rfl (hb hby at_127) (XS.goto X3.here hx rfl (pc0 := 128) (pc' := 132) rfl (hb hby at_128) (by decide) (by decide) (XS.istore X3.here hx rfl (hb hby at_132) rfl (l' := #[iv p1, iv p2, iv j2, .val j3, iv 1, rv po1, iv 1]) rfl k))))) ?_
    refine own_s T3 (mkF m 145 #[iv p1, iv p2, iv j2, .val j3, iv 1, rv po1, iv 1] [(.int 1)]) (fun _ k => XS.iload X3.here hx rfl (hb hby at_134) rfl  (XS.ifNo X3.here hx rfl (hb hby at_136) rfl ((if0 _ _).trans (feq (by decide : ¬ ((1 : Int32) = (0 : Int32)))).1) (XS.iload X3.here hx rfl (hb hby at_139) rfl  (XS.ifNo X3.here hx rfl (hb hby at_141) rfl ((if0 _ _).trans (feq (by decide : ¬ ((1 : Int32) = (0 : Int32)))).1) (XS.iconst X3.here hx rfl (hb hby at_144) k))))) ?_
    refine own_s T3 (mkF m 149 #[iv p1, iv p2, iv j2, .val j3, iv 1, rv po1, iv 1] [(.int 1)]) (fun _ k => XS.goto X3.here hx rfl (pc0 := 145) (pc' := 149) rfl (hb hby at_145) (by decide) (by decide) k) ?_
    exact own_finZ X3 hx (t := .boolean) hret (by simp) (z' := (1 : Int32)) rfl (hb hby at_149) (own_end (Qv := (own_Q0 Z p1 p2 vA kA o0 o1 o2 o3 o4 o5 o6 o7 o8 o9 h0 n0)) X3 (own_some hret) hlk (by decide) (by decide) rfl ⟨rfl, N3⟩)
  refine own_s s₁ (mkF m 3 #[iv p1, iv p2, u_, u_, u_, u_, u_] [(.int 20), (.int p1)]) (fun _ k => XS.iloadN X0.here hx rfl (hb hby at_0) rfl  (XS.bipush X0.here hx rfl (hb hby at_1) k)) ?_
  by_cases c3 : p1 = (20 : Int32)
  · refine own_s s₁ (mkF m 67 #[iv p1, iv p2, iv 1, u_, u_, u_, u_] [(.int p1)]) (fun _ k => XS.icmpYes X0.here hx rfl (pc0 := 3) (pc' := 60) rfl (hb hby at_3) rfl (teq c3).1 (by decide) (by decide) (XS.iconst X0.here hx rfl (hb hby at_60) (XS.goto X0.here hx rfl (pc0 := 61) (pc' := 65) rfl (hb hby at_61) (by decide) (by decide) (XS.istoreN X0.here hx rfl (hb hby at_65) rfl (l' := #[iv p1, iv p2, iv 1, u_, u_, u_, u_]) rfl (XS.iloadN X0.here hx rfl (hb hby at_66) rfl  k))))) ?_
    obtain ⟨v39, T39, L39, X39, hQ39, st39⟩ := own_callS X0 hx hZ (y := own_y1) (W := 0) hown (own_h hw 0 rfl) (own_h hw 1 rfl) (own_h hw 2 rfl) (own_h hw 3 rfl) (by decide) (own_rmof l Z a0 hw [] p1 vA kA o0 o1 o2 o3 o4 o5 o6 o7 o8 o9 (.ref o0) h0 n0 Z0 VV EV SV F0 F1 F2 F3 F4 F5 F6 F7 F8 F9 (by rw [c3]; simp [own_of])) (by decide) (by decide) (g := (mkF m 67 #[iv p1, iv p2, iv 1, u_, u_, u_, u_] [(.int p1)])) rfl (by rw [hml]; rfl) (argsL := [(.int p1)]) (rest := []) rfl (lenOf own_pd1 rfl) rfl (by show 2 * 0 + _ ≤ _; exact Nat.le_of_eq rfl) (hb hby at_67) e0 (by decide) (by decide)
    obtain ⟨rfl, Nq39, E39⟩ := hQ39
    have N39 := Fr.app N0 Nq39
    have f40 := VV.ext E39
    have f41 := Exa.ext E39 EV
    have f42 := Sta.ext E39 SV
    have f43 := Sta.ext E39 S0
    have f44 := Sta.ext E39 S1
    have f45 := Sta.ext E39 S2
    have f46 := Sta.ext E39 S3
    have f47 := Sta.ext E39 S4
    have f48 := Sta.ext E39 S5
    have f49 := Sta.ext E39 S6
    have f50 := Sta.ext E39 S7
    have f51 := Sta.ext E39 S8
    have f52 := Sta.ext E39 S9
    have f53 := Exa.ext E39 E0
    have f54 := Exa.ext E39 E1
    have f55 := Exa.ext E39 E2
    have f56 := Exa.ext E39 E3
    have f57 := Exa.ext E39 E4
    have f58 := Exa.ext E39 E5
    have f59 := Exa.ext E39 E6
    have f60 := Exa.ext E39 E7
    have f61 := Exa.ext E39 E8
    have f62 := Exa.ext E39 E9
    have f63 := Fld.ext E39 F0
    have f64 := Fld.ext E39 F1
    have f65 := Fld.ext E39 F2
    have f66 := Fld.ext E39 F3
    have f67 := Fld.ext E39 F4
    have f68 := Fld.ext E39 F5
    have f69 := Fld.ext E39 F6
    have f70 := Fld.ext E39 F7
    have f71 := Fld.ext E39 F8
    have f72 := Fld.ext E39 F9
    have Z39 := Nat.le_trans Z0 E39.1
    refine own_s T39 (mkF m 70 #[iv p1, iv p2, iv 1, u_, u_, u_, u_] [(.ref o0)]) st39 ?_
    refine own_s T39 (mkF m 79 #[iv p1, iv p2, iv 1, rv o0, u_, u_, u_] []) (fun _ k => XS.astoreN X39.here hx rfl (hb hby at_70) rfl rfl (l' := #[iv p1, iv p2, iv 1, rv o0, u_, u_, u_]) rfl (XS.iloadN X39.here hx rfl (hb hby at_71) rfl  (XS.ifNo X39.here hx rfl (hb hby at_72) rfl ((if0 _ _).trans (feq (by decide : ¬ ((1 : Int32) = (0 : Int32)))).1) (XS.aloadN X39.here hx rfl (hb hby at_75) rfl rfl (XS.ifnullNo X39.here hx rfl (hb hby at_76) rfl k))))) ?_
    refine own_s T39 (mkF m 80 #[iv p1, iv p2, iv 1, rv o0, u_, u_, u_] [(.ref o0)]) (fun _ k => XS.aloadN X39.here hx rfl (hb hby at_79) rfl rfl k) ?_
    obtain ⟨v73, T73, L73, X73, hQ73, st73⟩ := own_callV X39 hx hZ (y := own_y2) (z := own_y2) (W := 0) (a := o0) hown (own_h hw 37 rfl) (own_h hw 38 rfl) (notFace_of_selects (args := #[]) (mvT hZ (own_h hw 40 rfl))) (own_h hw 40 rfl) (own_h hw 39 rfl) (own_h hw 2 rfl) (own_h hw 41 rfl) (by decide) (own_rmcod l Z a0 hw [] o0 (20 : Int32) T39.heap n0 Z39 f63) (by decide) (by decide) f53 (g := (mkF m 80 #[iv p1, iv p2, iv 1, rv o0, u_, u_, u_] [(.ref o0)])) rfl (by rw [hml]; rfl) (argsL := []) (rest := []) rfl (lenOf own_pd2 rfl) rfl (by show 2 * 0 + _ ≤ _; exact Nat.le_of_eq rfl) (hb hby at_80) rfl (by decide) (by decide)
    obtain ⟨rfl, Nq73, e73⟩ := hQ73
    have N73 := Fr.app N39 Nq73
    refine own_s T73 (mkF m 83 #[iv p1, iv p2, iv 1, rv o0, u_, u_, u_] [(.int 20)]) st73 ?_
    refine own_s T73 (mkF m 94 #[iv p1, iv p2, iv 1, rv o0, iv 1, u_, u_] []) (fun _ k => XS.iloadN X73.here hx rfl (hb hby at_83) rfl  (XS.icmpNo X73.here hx rfl (hb hby at_84) rfl (teq c3.symm).2 (XS.iconst X73.here hx rfl (hb hby at_87) (XS.goto X73.here hx rfl (pc0 := 88) (pc' := 92) rfl (hb hby at_88) (by decide) (by decide) (XS.istore X73.here hx rfl (hb hby at_92) rfl (l' := #[iv p1, iv p2, iv 1, rv o0, iv 1, u_, u_]) rfl k))))) ?_
    refine own_s T73 (mkF m 108 #[iv p1, iv p2, iv 1, rv o0, iv 1, u_, u_] []) (fun _ k => XS.goto X73.here hx rfl (pc0 := 94) (pc' := 108) rfl (hb hby at_94) (by decide) (by decide) k) ?_
    exact J108 (1 : Int32) (.ref o0) _ _ _ X73 e73 N73 Z39 f40 f41 f42 f43 f44 f45 f46 f47 f48 f49 f50 f51 f52 f53 f54 f55 f56 f57 f58 f59 f60 f61 f62 f63 f64 f65 f66 f67 f68 f69 f70 f71 f72
  · refine own_s s₁ (mkF m 9 #[iv p1, iv p2, u_, u_, u_, u_, u_] [(.int 30), (.int p1)]) (fun _ k => XS.icmpNo X0.here hx rfl (hb hby at_3) rfl (feq c3).1 (XS.iloadN X0.here hx rfl (hb hby at_6) rfl  (XS.bipush X0.here hx rfl (hb hby at_7) k))) ?_
    by_cases c9 : p1 = (30 : Int32)
    · refine own_s s₁ (mkF m 67 #[iv p1, iv p2, iv 1, u_, u_, u_, u_] [(.int p1)]) (fun _ k => XS.icmpYes X0.here hx rfl (pc0 := 9) (pc' := 60) rfl (hb hby at_9) rfl (teq c9).1 (by decide) (by decide) (XS.iconst X0.here hx rfl (hb hby at_60) (XS.goto X0.here hx rfl (pc0 := 61) (pc' := 65) rfl (hb hby at_61) (by decide) (by decide) (XS.istoreN X0.here hx rfl (hb hby at_65) rfl (l' := #[iv p1, iv p2, iv 1, u_, u_, u_, u_]) rfl (XS.iloadN X0.here hx rfl (hb hby at_66) rfl  k))))) ?_
      obtain ⟨v74, T74, L74, X74, hQ74, st74⟩ := own_callS X0 hx hZ (y := own_y1) (W := 0) hown (own_h hw 0 rfl) (own_h hw 1 rfl) (own_h hw 2 rfl) (own_h hw 3 rfl) (by decide) (own_rmof l Z a0 hw [] p1 vA kA o0 o1 o2 o3 o4 o5 o6 o7 o8 o9 (.ref o1) h0 n0 Z0 VV EV SV F0 F1 F2 F3 F4 F5 F6 F7 F8 F9 (by rw [c9]; simp [own_of])) (by decide) (by decide) (g := (mkF m 67 #[iv p1, iv p2, iv 1, u_, u_, u_, u_] [(.int p1)])) rfl (by rw [hml]; rfl) (argsL := [(.int p1)]) (rest := []) rfl (lenOf own_pd1 rfl) rfl (by show 2 * 0 + _ ≤ _; exact Nat.le_of_eq rfl) (hb hby at_67) e0 (by decide) (by decide)
      obtain ⟨rfl, Nq74, E74⟩ := hQ74
      have N74 := Fr.app N0 Nq74
      have f75 := VV.ext E74
      have f76 := Exa.ext E74 EV
      have f77 := Sta.ext E74 SV
      have f78 := Sta.ext E74 S0
      have f79 := Sta.ext E74 S1
      have f80 := Sta.ext E74 S2
      have f81 := Sta.ext E74 S3
      have f82 := Sta.ext E74 S4
      have f83 := Sta.ext E74 S5
      have f84 := Sta.ext E74 S6
      have f85 := Sta.ext E74 S7
      have f86 := Sta.ext E74 S8
      have f87 := Sta.ext E74 S9
      have f88 := Exa.ext E74 E0
      have f89 := Exa.ext E74 E1
      have f90 := Exa.ext E74 E2
      have f91 := Exa.ext E74 E3
      have f92 := Exa.ext E74 E4
      have f93 := Exa.ext E74 E5
      have f94 := Exa.ext E74 E6
      have f95 := Exa.ext E74 E7
      have f96 := Exa.ext E74 E8
      have f97 := Exa.ext E74 E9
      have f98 := Fld.ext E74 F0
      have f99 := Fld.ext E74 F1
      have f100 := Fld.ext E74 F2
      have f101 := Fld.ext E74 F3
      have f102 := Fld.ext E74 F4
      have f103 := Fld.ext E74 F5
      have f104 := Fld.ext E74 F6
      have f105 := Fld.ext E74 F7
      have f106 := Fld.ext E74 F8
      have f107 := Fld.ext E74 F9
      have Z74 := Nat.le_trans Z0 E74.1
      refine own_s T74 (mkF m 70 #[iv p1, iv p2, iv 1, u_, u_, u_, u_] [(.ref o1)]) st74 ?_
      refine own_s T74 (mkF m 79 #[iv p1, iv p2, iv 1, rv o1, u_, u_, u_] []) (fun _ k => XS.astoreN X74.here hx rfl (hb hby at_70) rfl rfl (l' := #[iv p1, iv p2, iv 1, rv o1, u_, u_, u_]) rfl (XS.iloadN X74.here hx rfl (hb hby at_71) rfl  (XS.ifNo X74.here hx rfl (hb hby at_72) rfl ((if0 _ _).trans (feq (by decide : ¬ ((1 : Int32) = (0 : Int32)))).1) (XS.aloadN X74.here hx rfl (hb hby at_75) rfl rfl (XS.ifnullNo X74.here hx rfl (hb hby at_76) rfl k))))) ?_
      refine own_s T74 (mkF m 80 #[iv p1, iv p2, iv 1, rv o1, u_, u_, u_] [(.ref o1)]) (fun _ k => XS.aloadN X74.here hx rfl (hb hby at_79) rfl rfl k) ?_
      obtain ⟨v108, T108, L108, X108, hQ108, st108⟩ := own_callV X74 hx hZ (y := own_y2) (z := own_y2) (W := 0) (a := o1) hown (own_h hw 37 rfl) (own_h hw 38 rfl) (notFace_of_selects (args := #[]) (mvT hZ (own_h hw 40 rfl))) (own_h hw 40 rfl) (own_h hw 39 rfl) (own_h hw 2 rfl) (own_h hw 41 rfl) (by decide) (own_rmcod l Z a0 hw [] o1 (30 : Int32) T74.heap n0 Z74 f99) (by decide) (by decide) f89 (g := (mkF m 80 #[iv p1, iv p2, iv 1, rv o1, u_, u_, u_] [(.ref o1)])) rfl (by rw [hml]; rfl) (argsL := []) (rest := []) rfl (lenOf own_pd2 rfl) rfl (by show 2 * 0 + _ ≤ _; exact Nat.le_of_eq rfl) (hb hby at_80) rfl (by decide) (by decide)
      obtain ⟨rfl, Nq108, e108⟩ := hQ108
      have N108 := Fr.app N74 Nq108
      refine own_s T108 (mkF m 83 #[iv p1, iv p2, iv 1, rv o1, u_, u_, u_] [(.int 30)]) st108 ?_
      refine own_s T108 (mkF m 94 #[iv p1, iv p2, iv 1, rv o1, iv 1, u_, u_] []) (fun _ k => XS.iloadN X108.here hx rfl (hb hby at_83) rfl  (XS.icmpNo X108.here hx rfl (hb hby at_84) rfl (teq c9.symm).2 (XS.iconst X108.here hx rfl (hb hby at_87) (XS.goto X108.here hx rfl (pc0 := 88) (pc' := 92) rfl (hb hby at_88) (by decide) (by decide) (XS.istore X108.here hx rfl (hb hby at_92) rfl (l' := #[iv p1, iv p2, iv 1, rv o1, iv 1, u_, u_]) rfl k))))) ?_
      refine own_s T108 (mkF m 108 #[iv p1, iv p2, iv 1, rv o1, iv 1, u_, u_] []) (fun _ k => XS.goto X108.here hx rfl (pc0 := 94) (pc' := 108) rfl (hb hby at_94) (by decide) (by decide) k) ?_
      exact J108 (1 : Int32) (.ref o1) _ _ _ X108 e108 N108 Z74 f75 f76 f77 f78 f79 f80 f81 f82 f83 f84 f85 f86 f87 f88 f89 f90 f91 f92 f93 f94 f95 f96 f97 f98 f99 f100 f101 f102 f103 f104 f105 f106 f107
    · refine own_s s₁ (mkF m 15 #[iv p1, iv p2, u_, u_, u_, u_, u_] [(.int 31), (.int p1)]) (fun _ k => XS.icmpNo X0.here hx rfl (hb hby at_9) rfl (feq c9).1 (XS.iloadN X0.here hx rfl (hb hby at_12) rfl  (XS.bipush X0.here hx rfl (hb hby at_13) k))) ?_
      by_cases c15 : p1 = (31 : Int32)
      · refine own_s s₁ (mkF m 67 #[iv p1, iv p2, iv 1, u_, u_, u_, u_] [(.int p1)]) (fun _ k => XS.icmpYes X0.here hx rfl (pc0 := 15) (pc' := 60) rfl (hb hby at_15) rfl (teq c15).1 (by decide) (by decide) (XS.iconst X0.here hx rfl (hb hby at_60) (XS.goto X0.here hx rfl (pc0 := 61) (pc' := 65) rfl (hb hby at_61) (by decide) (by decide) (XS.istoreN X0.here hx rfl (hb hby at_65) rfl (l' := #[iv p1, iv p2, iv 1, u_, u_, u_, u_]) rfl (XS.iloadN X0.here hx rfl (hb hby at_66) rfl  k))))) ?_
        obtain ⟨v109, T109, L109, X109, hQ109, st109⟩ := own_callS X0 hx hZ (y := own_y1) (W := 0) hown (own_h hw 0 rfl) (own_h hw 1 rfl) (own_h hw 2 rfl) (own_h hw 3 rfl) (by decide) (own_rmof l Z a0 hw [] p1 vA kA o0 o1 o2 o3 o4 o5 o6 o7 o8 o9 (.ref o2) h0 n0 Z0 VV EV SV F0 F1 F2 F3 F4 F5 F6 F7 F8 F9 (by rw [c15]; simp [own_of])) (by decide) (by decide) (g := (mkF m 67 #[iv p1, iv p2, iv 1, u_, u_, u_, u_] [(.int p1)])) rfl (by rw [hml]; rfl) (argsL := [(.int p1)]) (rest := []) rfl (lenOf own_pd1 rfl) rfl (by show 2 * 0 + _ ≤ _; exact Nat.le_of_eq rfl) (hb hby at_67) e0 (by decide) (by decide)
        obtain ⟨rfl, Nq109, E109⟩ := hQ109
        have N109 := Fr.app N0 Nq109
        have f110 := VV.ext E109
        have f111 := Exa.ext E109 EV
        have f112 := Sta.ext E109 SV
        have f113 := Sta.ext E109 S0
        have f114 := Sta.ext E109 S1
        have f115 := Sta.ext E109 S2
        have f116 := Sta.ext E109 S3
        have f117 := Sta.ext E109 S4
        have f118 := Sta.ext E109 S5
        have f119 := Sta.ext E109 S6
        have f120 := Sta.ext E109 S7
        have f121 := Sta.ext E109 S8
        have f122 := Sta.ext E109 S9
        have f123 := Exa.ext E109 E0
        have f124 := Exa.ext E109 E1
        have f125 := Exa.ext E109 E2
        have f126 := Exa.ext E109 E3
        have f127 := Exa.ext E109 E4
        have f128 := Exa.ext E109 E5
        have f129 := Exa.ext E109 E6
        have f130 := Exa.ext E109 E7
        have f131 := Exa.ext E109 E8
        have f132 := Exa.ext E109 E9
        have f133 := Fld.ext E109 F0
        have f134 := Fld.ext E109 F1
        have f135 := Fld.ext E109 F2
        have f136 := Fld.ext E109 F3
        have f137 := Fld.ext E109 F4
        have f138 := Fld.ext E109 F5
        have f139 := Fld.ext E109 F6
        have f140 := Fld.ext E109 F7
        have f141 := Fld.ext E109 F8
        have f142 := Fld.ext E109 F9
        have Z109 := Nat.le_trans Z0 E109.1
        refine own_s T109 (mkF m 70 #[iv p1, iv p2, iv 1, u_, u_, u_, u_] [(.ref o2)]) st109 ?_
        refine own_s T109 (mkF m 79 #[iv p1, iv p2, iv 1, rv o2, u_, u_, u_] []) (fun _ k => XS.astoreN X109.here hx rfl (hb hby at_70) rfl rfl (l' := #[iv p1, iv p2, iv 1, rv o2, u_, u_, u_]) rfl (XS.iloadN X109.here hx rfl (hb hby at_71) rfl  (XS.ifNo X109.here hx rfl (hb hby at_72) rfl ((if0 _ _).trans (feq (by decide : ¬ ((1 : Int32) = (0 : Int32)))).1) (XS.aloadN X109.here hx rfl (hb hby at_75) rfl rfl (XS.ifnullNo X109.here hx rfl (hb hby at_76) rfl k))))) ?_
        refine own_s T109 (mkF m 80 #[iv p1, iv p2, iv 1, rv o2, u_, u_, u_] [(.ref o2)]) (fun _ k => XS.aloadN X109.here hx rfl (hb hby at_79) rfl rfl k) ?_
        obtain ⟨v143, T143, L143, X143, hQ143, st143⟩ := own_callV X109 hx hZ (y := own_y2) (z := own_y2) (W := 0) (a := o2) hown (own_h hw 37 rfl) (own_h hw 38 rfl) (notFace_of_selects (args := #[]) (mvT hZ (own_h hw 40 rfl))) (own_h hw 40 rfl) (own_h hw 39 rfl) (own_h hw 2 rfl) (own_h hw 41 rfl) (by decide) (own_rmcod l Z a0 hw [] o2 (31 : Int32) T109.heap n0 Z109 f135) (by decide) (by decide) f125 (g := (mkF m 80 #[iv p1, iv p2, iv 1, rv o2, u_, u_, u_] [(.ref o2)])) rfl (by rw [hml]; rfl) (argsL := []) (rest := []) rfl (lenOf own_pd2 rfl) rfl (by show 2 * 0 + _ ≤ _; exact Nat.le_of_eq rfl) (hb hby at_80) rfl (by decide) (by decide)
        obtain ⟨rfl, Nq143, e143⟩ := hQ143
        have N143 := Fr.app N109 Nq143
        refine own_s T143 (mkF m 83 #[iv p1, iv p2, iv 1, rv o2, u_, u_, u_] [(.int 31)]) st143 ?_
        refine own_s T143 (mkF m 94 #[iv p1, iv p2, iv 1, rv o2, iv 1, u_, u_] []) (fun _ k => XS.iloadN X143.here hx rfl (hb hby at_83) rfl  (XS.icmpNo X143.here hx rfl (hb hby at_84) rfl (teq c15.symm).2 (XS.iconst X143.here hx rfl (hb hby at_87) (XS.goto X143.here hx rfl (pc0 := 88) (pc' := 92) rfl (hb hby at_88) (by decide) (by decide) (XS.istore X143.here hx rfl (hb hby at_92) rfl (l' := #[iv p1, iv p2, iv 1, rv o2, iv 1, u_, u_]) rfl k))))) ?_
        refine own_s T143 (mkF m 108 #[iv p1, iv p2, iv 1, rv o2, iv 1, u_, u_] []) (fun _ k => XS.goto X143.here hx rfl (pc0 := 94) (pc' := 108) rfl (hb hby at_94) (by decide) (by decide) k) ?_
        exact J108 (1 : Int32) (.ref o2) _ _ _ X143 e143 N143 Z109 f110 f111 f112 f113 f114 f115 f116 f117 f118 f119 f120 f121 f122 f123 f124 f125 f126 f127 f128 f129 f130 f131 f132 f133 f134 f135 f136 f137 f138 f139 f140 f141 f142
      · refine own_s s₁ (mkF m 21 #[iv p1, iv p2, u_, u_, u_, u_, u_] [(.int 40), (.int p1)]) (fun _ k => XS.icmpNo X0.here hx rfl (hb hby at_15) rfl (feq c15).1 (XS.iloadN X0.here hx rfl (hb hby at_18) rfl  (XS.bipush X0.here hx rfl (hb hby at_19) k))) ?_
        by_cases c21 : p1 = (40 : Int32)
        · refine own_s s₁ (mkF m 67 #[iv p1, iv p2, iv 1, u_, u_, u_, u_] [(.int p1)]) (fun _ k => XS.icmpYes X0.here hx rfl (pc0 := 21) (pc' := 60) rfl (hb hby at_21) rfl (teq c21).1 (by decide) (by decide) (XS.iconst X0.here hx rfl (hb hby at_60) (XS.goto X0.here hx rfl (pc0 := 61) (pc' := 65) rfl (hb hby at_61) (by decide) (by decide) (XS.istoreN X0.here hx rfl (hb hby at_65) rfl (l' := #[iv p1, iv p2, iv 1, u_, u_, u_, u_]) rfl (XS.iloadN X0.here hx rfl (hb hby at_66) rfl  k))))) ?_
          obtain ⟨v144, T144, L144, X144, hQ144, st144⟩ := own_callS X0 hx hZ (y := own_y1) (W := 0) hown (own_h hw 0 rfl) (own_h hw 1 rfl) (own_h hw 2 rfl) (own_h hw 3 rfl) (by decide) (own_rmof l Z a0 hw [] p1 vA kA o0 o1 o2 o3 o4 o5 o6 o7 o8 o9 (.ref o3) h0 n0 Z0 VV EV SV F0 F1 F2 F3 F4 F5 F6 F7 F8 F9 (by rw [c21]; simp [own_of])) (by decide) (by decide) (g := (mkF m 67 #[iv p1, iv p2, iv 1, u_, u_, u_, u_] [(.int p1)])) rfl (by rw [hml]; rfl) (argsL := [(.int p1)]) (rest := []) rfl (lenOf own_pd1 rfl) rfl (by show 2 * 0 + _ ≤ _; exact Nat.le_of_eq rfl) (hb hby at_67) e0 (by decide) (by decide)
          obtain ⟨rfl, Nq144, E144⟩ := hQ144
          have N144 := Fr.app N0 Nq144
          have f145 := VV.ext E144
          have f146 := Exa.ext E144 EV
          have f147 := Sta.ext E144 SV
          have f148 := Sta.ext E144 S0
          have f149 := Sta.ext E144 S1
          have f150 := Sta.ext E144 S2
          have f151 := Sta.ext E144 S3
          have f152 := Sta.ext E144 S4
          have f153 := Sta.ext E144 S5
          have f154 := Sta.ext E144 S6
          have f155 := Sta.ext E144 S7
          have f156 := Sta.ext E144 S8
          have f157 := Sta.ext E144 S9
          have f158 := Exa.ext E144 E0
          have f159 := Exa.ext E144 E1
          have f160 := Exa.ext E144 E2
          have f161 := Exa.ext E144 E3
          have f162 := Exa.ext E144 E4
          have f163 := Exa.ext E144 E5
          have f164 := Exa.ext E144 E6
          have f165 := Exa.ext E144 E7
          have f166 := Exa.ext E144 E8
          have f167 := Exa.ext E144 E9
          have f168 := Fld.ext E144 F0
          have f169 := Fld.ext E144 F1
          have f170 := Fld.ext E144 F2
          have f171 := Fld.ext E144 F3
          have f172 := Fld.ext E144 F4
          have f173 := Fld.ext E144 F5
          have f174 := Fld.ext E144 F6
          have f175 := Fld.ext E144 F7
          have f176 := Fld.ext E144 F8
          have f177 := Fld.ext E144 F9
          have Z144 := Nat.le_trans Z0 E144.1
          refine own_s T144 (mkF m 70 #[iv p1, iv p2, iv 1, u_, u_, u_, u_] [(.ref o3)]) st144 ?_
          refine own_s T144 (mkF m 79 #[iv p1, iv p2, iv 1, rv o3, u_, u_, u_] []) (fun _ k => XS.astoreN X144.here hx rfl (hb hby at_70) rfl rfl (l' := #[iv p1, iv p2, iv 1, rv o3, u_, u_, u_]) rfl (XS.iloadN X144.here hx rfl (hb hby at_71) rfl  (XS.ifNo X144.here hx rfl (hb hby at_72) rfl ((if0 _ _).trans (feq (by decide : ¬ ((1 : Int32) = (0 : Int32)))).1) (XS.aloadN X144.here hx rfl (hb hby at_75) rfl rfl (XS.ifnullNo X144.here hx rfl (hb hby at_76) rfl k))))) ?_
          refine own_s T144 (mkF m 80 #[iv p1, iv p2, iv 1, rv o3, u_, u_, u_] [(.ref o3)]) (fun _ k => XS.aloadN X144.here hx rfl (hb hby at_79) rfl rfl k) ?_
          obtain ⟨v178, T178, L178, X178, hQ178, st178⟩ := own_callV X144 hx hZ (y := own_y2) (z := own_y2) (W := 0) (a := o3) hown (own_h hw 37 rfl) (own_h hw 38 rfl) (notFace_of_selects (args := #[]) (mvT hZ (own_h hw 40 rfl))) (own_h hw 40 rfl) (own_h hw 39 rfl) (own_h hw 2 rfl) (own_h hw 41 rfl) (by decide) (own_rmcod l Z a0 hw [] o3 (40 : Int32) T144.heap n0 Z144 f171) (by decide) (by decide) f161 (g := (mkF m 80 #[iv p1, iv p2, iv 1, rv o3, u_, u_, u_] [(.ref o3)])) rfl (by rw [hml]; rfl) (argsL := []) (rest := []) rfl (lenOf own_pd2 rfl) rfl (by show 2 * 0 + _ ≤ _; exact Nat.le_of_eq rfl) (hb hby at_80) rfl (by decide) (by decide)
          obtain ⟨rfl, Nq178, e178⟩ := hQ178
          have N178 := Fr.app N144 Nq178
          refine own_s T178 (mkF m 83 #[iv p1, iv p2, iv 1, rv o3, u_, u_, u_] [(.int 40)]) st178 ?_
          refine own_s T178 (mkF m 94 #[iv p1, iv p2, iv 1, rv o3, iv 1, u_, u_] []) (fun _ k => XS.iloadN X178.here hx rfl (hb hby at_83) rfl  (XS.icmpNo X178.here hx rfl (hb hby at_84) rfl (teq c21.symm).2 (XS.iconst X178.here hx rfl (hb hby at_87) (XS.goto X178.here hx rfl (pc0 := 88) (pc' := 92) rfl (hb hby at_88) (by decide) (by decide) (XS.istore X178.here hx rfl (hb hby at_92) rfl (l' := #[iv p1, iv p2, iv 1, rv o3, iv 1, u_, u_]) rfl k))))) ?_
          refine own_s T178 (mkF m 108 #[iv p1, iv p2, iv 1, rv o3, iv 1, u_, u_] []) (fun _ k => XS.goto X178.here hx rfl (pc0 := 94) (pc' := 108) rfl (hb hby at_94) (by decide) (by decide) k) ?_
          exact J108 (1 : Int32) (.ref o3) _ _ _ X178 e178 N178 Z144 f145 f146 f147 f148 f149 f150 f151 f152 f153 f154 f155 f156 f157 f158 f159 f160 f161 f162 f163 f164 f165 f166 f167 f168 f169 f170 f171 f172 f173 f174 f175 f176 f177
        · refine own_s s₁ (mkF m 27 #[iv p1, iv p2, u_, u_, u_, u_, u_] [(.int 50), (.int p1)]) (fun _ k => XS.icmpNo X0.here hx rfl (hb hby at_21) rfl (feq c21).1 (XS.iloadN X0.here hx rfl (hb hby at_24) rfl  (XS.bipush X0.here hx rfl (hb hby at_25) k))) ?_
          by_cases c27 : p1 = (50 : Int32)
          · refine own_s s₁ (mkF m 67 #[iv p1, iv p2, iv 1, u_, u_, u_, u_] [(.int p1)]) (fun _ k => XS.icmpYes X0.here hx rfl (pc0 := 27) (pc' := 60) rfl (hb hby at_27) rfl (teq c27).1 (by decide) (by decide) (XS.iconst X0.here hx rfl (hb hby at_60) (XS.goto X0.here hx rfl (pc0 := 61) (pc' := 65) rfl (hb hby at_61) (by decide) (by decide) (XS.istoreN X0.here hx rfl (hb hby at_65) rfl (l' := #[iv p1, iv p2, iv 1, u_, u_, u_, u_]) rfl (XS.iloadN X0.here hx rfl (hb hby at_66) rfl  k))))) ?_
            obtain ⟨v179, T179, L179, X179, hQ179, st179⟩ := own_callS X0 hx hZ (y := own_y1) (W := 0) hown (own_h hw 0 rfl) (own_h hw 1 rfl) (own_h hw 2 rfl) (own_h hw 3 rfl) (by decide) (own_rmof l Z a0 hw [] p1 vA kA o0 o1 o2 o3 o4 o5 o6 o7 o8 o9 (.ref o4) h0 n0 Z0 VV EV SV F0 F1 F2 F3 F4 F5 F6 F7 F8 F9 (by rw [c27]; simp [own_of])) (by decide) (by decide) (g := (mkF m 67 #[iv p1, iv p2, iv 1, u_, u_, u_, u_] [(.int p1)])) rfl (by rw [hml]; rfl) (argsL := [(.int p1)]) (rest := []) rfl (lenOf own_pd1 rfl) rfl (by show 2 * 0 + _ ≤ _; exact Nat.le_of_eq rfl) (hb hby at_67) e0 (by decide) (by decide)
            obtain ⟨rfl, Nq179, E179⟩ := hQ179
            have N179 := Fr.app N0 Nq179
            have f180 := VV.ext E179
            have f181 := Exa.ext E179 EV
            have f182 := Sta.ext E179 SV
            have f183 := Sta.ext E179 S0
            have f184 := Sta.ext E179 S1
            have f185 := Sta.ext E179 S2
            have f186 := Sta.ext E179 S3
            have f187 := Sta.ext E179 S4
            have f188 := Sta.ext E179 S5
            have f189 := Sta.ext E179 S6
            have f190 := Sta.ext E179 S7
            have f191 := Sta.ext E179 S8
            have f192 := Sta.ext E179 S9
            have f193 := Exa.ext E179 E0
            have f194 := Exa.ext E179 E1
            have f195 := Exa.ext E179 E2
            have f196 := Exa.ext E179 E3
            have f197 := Exa.ext E179 E4
            have f198 := Exa.ext E179 E5
            have f199 := Exa.ext E179 E6
            have f200 := Exa.ext E179 E7
            have f201 := Exa.ext E179 E8
            have f202 := Exa.ext E179 E9
            have f203 := Fld.ext E179 F0
            have f204 := Fld.ext E179 F1
            have f205 := Fld.ext E179 F2
            have f206 := Fld.ext E179 F3
            have f207 := Fld.ext E179 F4
            have f208 := Fld.ext E179 F5
            have f209 := Fld.ext E179 F6
            have f210 := Fld.ext E179 F7
            have f211 := Fld.ext E179 F8
            have f212 := Fld.ext E179 F9
            have Z179 := Nat.le_trans Z0 E179.1
            refine own_s T179 (mkF m 70 #[iv p1, iv p2, iv 1, u_, u_, u_, u_] [(.ref o4)]) st179 ?_
            refine own_s T179 (mkF m 79 #[iv p1, iv p2, iv 1, rv o4, u_, u_, u_] []) (fun _ k => XS.astoreN X179.here hx rfl (hb hby at_70) rfl rfl (l' := #[iv p1, iv p2, iv 1, rv o4, u_, u_, u_]) rfl (XS.iloadN X179.here hx rfl (hb hby at_71) rfl  (XS.ifNo X179.here hx rfl (hb hby at_72) rfl ((if0 _ _).trans (feq (by decide : ¬ ((1 : Int32) = (0 : Int32)))).1) (XS.aloadN X179.here hx rfl (hb hby at_75) rfl rfl (XS.ifnullNo X179.here hx rfl (hb hby at_76) rfl k))))) ?_
            refine own_s T179 (mkF m 80 #[iv p1, iv p2, iv 1, rv o4, u_, u_, u_] [(.ref o4)]) (fun _ k => XS.aloadN X179.here hx rfl (hb hby at_79) rfl rfl k) ?_
            obtain ⟨v213, T213, L213, X213, hQ213, st213⟩ := own_callV X179 hx hZ (y := own_y2) (z := own_y2) (W := 0) (a := o4) hown (own_h hw 37 rfl) (own_h hw 38 rfl) (notFace_of_selects (args := #[]) (mvT hZ (own_h hw 40 rfl))) (own_h hw 40 rfl) (own_h hw 39 rfl) (own_h hw 2 rfl) (own_h hw 41 rfl) (by decide) (own_rmcod l Z a0 hw [] o4 (50 : Int32) T179.heap n0 Z179 f207) (by decide) (by decide) f197 (g := (mkF m 80 #[iv p1, iv p2, iv 1, rv o4, u_, u_, u_] [(.ref o4)])) rfl (by rw [hml]; rfl) (argsL := []) (rest := []) rfl (lenOf own_pd2 rfl) rfl (by show 2 * 0 + _ ≤ _; exact Nat.le_of_eq rfl) (hb hby at_80) rfl (by decide) (by decide)
            obtain ⟨rfl, Nq213, e213⟩ := hQ213
            have N213 := Fr.app N179 Nq213
            refine own_s T213 (mkF m 83 #[iv p1, iv p2, iv 1, rv o4, u_, u_, u_] [(.int 50)]) st213 ?_
            refine own_s T213 (mkF m 94 #[iv p1, iv p2, iv 1, rv o4, iv 1, u_, u_] []) (fun _ k => XS.iloadN X213.here hx rfl (hb hby at_83) rfl  (XS.icmpNo X213.here hx rfl (hb hby at_84) rfl (teq c27.symm).2 (XS.iconst X213.here hx rfl (hb hby at_87) (XS.goto X213.here hx rfl (pc0 := 88) (pc' := 92) rfl (hb hby at_88) (by decide) (by decide) (XS.istore X213.here hx rfl (hb hby at_92) rfl (l' := #[iv p1, iv p2, iv 1, rv o4, iv 1, u_, u_]) rfl k))))) ?_
            refine own_s T213 (mkF m 108 #[iv p1, iv p2, iv 1, rv o4, iv 1, u_, u_] []) (fun _ k => XS.goto X213.here hx rfl (pc0 := 94) (pc' := 108) rfl (hb hby at_94) (by decide) (by decide) k) ?_
            exact J108 (1 : Int32) (.ref o4) _ _ _ X213 e213 N213 Z179 f180 f181 f182 f183 f184 f185 f186 f187 f188 f189 f190 f191 f192 f193 f194 f195 f196 f197 f198 f199 f200 f201 f202 f203 f204 f205 f206 f207 f208 f209 f210 f211 f212
          · refine own_s s₁ (mkF m 33 #[iv p1, iv p2, u_, u_, u_, u_, u_] [(.int 60), (.int p1)]) (fun _ k => XS.icmpNo X0.here hx rfl (hb hby at_27) rfl (feq c27).1 (XS.iloadN X0.here hx rfl (hb hby at_30) rfl  (XS.bipush X0.here hx rfl (hb hby at_31) k))) ?_
            by_cases c33 : p1 = (60 : Int32)
            · refine own_s s₁ (mkF m 67 #[iv p1, iv p2, iv 1, u_, u_, u_, u_] [(.int p1)]) (fun _ k => XS.icmpYes X0.here hx rfl (pc0 := 33) (pc' := 60) rfl (hb hby at_33) rfl (teq c33).1 (by decide) (by decide) (XS.iconst X0.here hx rfl (hb hby at_60) (XS.goto X0.here hx rfl (pc0 := 61) (pc' := 65) rfl (hb hby at_61) (by decide) (by decide) (XS.istoreN X0.here hx rfl (hb hby at_65) rfl (l' := #[iv p1, iv p2, iv 1, u_, u_, u_, u_]) rfl (XS.iloadN X0.here hx rfl (hb hby at_66) rfl  k))))) ?_
              obtain ⟨v214, T214, L214, X214, hQ214, st214⟩ := own_callS X0 hx hZ (y := own_y1) (W := 0) hown (own_h hw 0 rfl) (own_h hw 1 rfl) (own_h hw 2 rfl) (own_h hw 3 rfl) (by decide) (own_rmof l Z a0 hw [] p1 vA kA o0 o1 o2 o3 o4 o5 o6 o7 o8 o9 (.ref o5) h0 n0 Z0 VV EV SV F0 F1 F2 F3 F4 F5 F6 F7 F8 F9 (by rw [c33]; simp [own_of])) (by decide) (by decide) (g := (mkF m 67 #[iv p1, iv p2, iv 1, u_, u_, u_, u_] [(.int p1)])) rfl (by rw [hml]; rfl) (argsL := [(.int p1)]) (rest := []) rfl (lenOf own_pd1 rfl) rfl (by show 2 * 0 + _ ≤ _; exact Nat.le_of_eq rfl) (hb hby at_67) e0 (by decide) (by decide)
              obtain ⟨rfl, Nq214, E214⟩ := hQ214
              have N214 := Fr.app N0 Nq214
              have f215 := VV.ext E214
              have f216 := Exa.ext E214 EV
              have f217 := Sta.ext E214 SV
              have f218 := Sta.ext E214 S0
              have f219 := Sta.ext E214 S1
              have f220 := Sta.ext E214 S2
              have f221 := Sta.ext E214 S3
              have f222 := Sta.ext E214 S4
              have f223 := Sta.ext E214 S5
              have f224 := Sta.ext E214 S6
              have f225 := Sta.ext E214 S7
              have f226 := Sta.ext E214 S8
              have f227 := Sta.ext E214 S9
              have f228 := Exa.ext E214 E0
              have f229 := Exa.ext E214 E1
              have f230 := Exa.ext E214 E2
              have f231 := Exa.ext E214 E3
              have f232 := Exa.ext E214 E4
              have f233 := Exa.ext E214 E5
              have f234 := Exa.ext E214 E6
              have f235 := Exa.ext E214 E7
              have f236 := Exa.ext E214 E8
              have f237 := Exa.ext E214 E9
              have f238 := Fld.ext E214 F0
              have f239 := Fld.ext E214 F1
              have f240 := Fld.ext E214 F2
              have f241 := Fld.ext E214 F3
              have f242 := Fld.ext E214 F4
              have f243 := Fld.ext E214 F5
              have f244 := Fld.ext E214 F6
              have f245 := Fld.ext E214 F7
              have f246 := Fld.ext E214 F8
              have f247 := Fld.ext E214 F9
              have Z214 := Nat.le_trans Z0 E214.1
              refine own_s T214 (mkF m 70 #[iv p1, iv p2, iv 1, u_, u_, u_, u_] [(.ref o5)]) st214 ?_
              refine own_s T214 (mkF m 79 #[iv p1, iv p2, iv 1, rv o5, u_, u_, u_] []) (fun _ k => XS.astoreN X214.here hx rfl (hb hby at_70) rfl rfl (l' := #[iv p1, iv p2, iv 1, rv o5, u_, u_, u_]) rfl (XS.iloadN X214.here hx rfl (hb hby at_71) rfl  (XS.ifNo X214.here hx rfl (hb hby at_72) rfl ((if0 _ _).trans (feq (by decide : ¬ ((1 : Int32) = (0 : Int32)))).1) (XS.aloadN X214.here hx rfl (hb hby at_75) rfl rfl (XS.ifnullNo X214.here hx rfl (hb hby at_76) rfl k))))) ?_
              refine own_s T214 (mkF m 80 #[iv p1, iv p2, iv 1, rv o5, u_, u_, u_] [(.ref o5)]) (fun _ k => XS.aloadN X214.here hx rfl (hb hby at_79) rfl rfl k) ?_
              obtain ⟨v248, T248, L248, X248, hQ248, st248⟩ := own_callV X214 hx hZ (y := own_y2) (z := own_y2) (W := 0) (a := o5) hown (own_h hw 37 rfl) (own_h hw 38 rfl) (notFace_of_selects (args := #[]) (mvT hZ (own_h hw 40 rfl))) (own_h hw 40 rfl) (own_h hw 39 rfl) (own_h hw 2 rfl) (own_h hw 41 rfl) (by decide) (own_rmcod l Z a0 hw [] o5 (60 : Int32) T214.heap n0 Z214 f243) (by decide) (by decide) f233 (g := (mkF m 80 #[iv p1, iv p2, iv 1, rv o5, u_, u_, u_] [(.ref o5)])) rfl (by rw [hml]; rfl) (argsL := []) (rest := []) rfl (lenOf own_pd2 rfl) rfl (by show 2 * 0 + _ ≤ _; exact Nat.le_of_eq rfl) (hb hby at_80) rfl (by decide) (by decide)
              obtain ⟨rfl, Nq248, e248⟩ := hQ248
              have N248 := Fr.app N214 Nq248
              refine own_s T248 (mkF m 83 #[iv p1, iv p2, iv 1, rv o5, u_, u_, u_] [(.int 60)]) st248 ?_
              refine own_s T248 (mkF m 94 #[iv p1, iv p2, iv 1, rv o5, iv 1, u_, u_] []) (fun _ k => XS.iloadN X248.here hx rfl (hb hby at_83) rfl  (XS.icmpNo X248.here hx rfl (hb hby at_84) rfl (teq c33.symm).2 (XS.iconst X248.here hx rfl (hb hby at_87) (XS.goto X248.here hx rfl (pc0 := 88) (pc' := 92) rfl (hb hby at_88) (by decide) (by decide) (XS.istore X248.here hx rfl (hb hby at_92) rfl (l' := #[iv p1, iv p2, iv 1, rv o5, iv 1, u_, u_]) rfl k))))) ?_
              refine own_s T248 (mkF m 108 #[iv p1, iv p2, iv 1, rv o5, iv 1, u_, u_] []) (fun _ k => XS.goto X248.here hx rfl (pc0 := 94) (pc' := 108) rfl (hb hby at_94) (by decide) (by decide) k) ?_
              exact J108 (1 : Int32) (.ref o5) _ _ _ X248 e248 N248 Z214 f215 f216 f217 f218 f219 f220 f221 f222 f223 f224 f225 f226 f227 f228 f229 f230 f231 f232 f233 f234 f235 f236 f237 f238 f239 f240 f241 f242 f243 f244 f245 f246 f247
            · refine own_s s₁ (mkF m 39 #[iv p1, iv p2, u_, u_, u_, u_, u_] [(.int 70), (.int p1)]) (fun _ k => XS.icmpNo X0.here hx rfl (hb hby at_33) rfl (feq c33).1 (XS.iloadN X0.here hx rfl (hb hby at_36) rfl  (XS.bipush X0.here hx rfl (hb hby at_37) k))) ?_
              by_cases c39 : p1 = (70 : Int32)
              · refine own_s s₁ (mkF m 67 #[iv p1, iv p2, iv 1, u_, u_, u_, u_] [(.int p1)]) (fun _ k => XS.icmpYes X0.here hx rfl (pc0 := 39) (pc' := 60) rfl (hb hby at_39) rfl (teq c39).1 (by decide) (by decide) (XS.iconst X0.here hx rfl (hb hby at_60) (XS.goto X0.here hx rfl (pc0 := 61) (pc' := 65) rfl (hb hby at_61) (by decide) (by decide) (XS.istoreN X0.here hx rfl (hb hby at_65) rfl (l' := #[iv p1, iv p2, iv 1, u_, u_, u_, u_]) rfl (XS.iloadN X0.here hx rfl (hb hby at_66) rfl  k))))) ?_
                obtain ⟨v249, T249, L249, X249, hQ249, st249⟩ := own_callS X0 hx hZ (y := own_y1) (W := 0) hown (own_h hw 0 rfl) (own_h hw 1 rfl) (own_h hw 2 rfl) (own_h hw 3 rfl) (by decide) (own_rmof l Z a0 hw [] p1 vA kA o0 o1 o2 o3 o4 o5 o6 o7 o8 o9 (.ref o6) h0 n0 Z0 VV EV SV F0 F1 F2 F3 F4 F5 F6 F7 F8 F9 (by rw [c39]; simp [own_of])) (by decide) (by decide) (g := (mkF m 67 #[iv p1, iv p2, iv 1, u_, u_, u_, u_] [(.int p1)])) rfl (by rw [hml]; rfl) (argsL := [(.int p1)]) (rest := []) rfl (lenOf own_pd1 rfl) rfl (by show 2 * 0 + _ ≤ _; exact Nat.le_of_eq rfl) (hb hby at_67) e0 (by decide) (by decide)
                obtain ⟨rfl, Nq249, E249⟩ := hQ249
                have N249 := Fr.app N0 Nq249
                have f250 := VV.ext E249
                have f251 := Exa.ext E249 EV
                have f252 := Sta.ext E249 SV
                have f253 := Sta.ext E249 S0
                have f254 := Sta.ext E249 S1
                have f255 := Sta.ext E249 S2
                have f256 := Sta.ext E249 S3
                have f257 := Sta.ext E249 S4
                have f258 := Sta.ext E249 S5
                have f259 := Sta.ext E249 S6
                have f260 := Sta.ext E249 S7
                have f261 := Sta.ext E249 S8
                have f262 := Sta.ext E249 S9
                have f263 := Exa.ext E249 E0
                have f264 := Exa.ext E249 E1
                have f265 := Exa.ext E249 E2
                have f266 := Exa.ext E249 E3
                have f267 := Exa.ext E249 E4
                have f268 := Exa.ext E249 E5
                have f269 := Exa.ext E249 E6
                have f270 := Exa.ext E249 E7
                have f271 := Exa.ext E249 E8
                have f272 := Exa.ext E249 E9
                have f273 := Fld.ext E249 F0
                have f274 := Fld.ext E249 F1
                have f275 := Fld.ext E249 F2
                have f276 := Fld.ext E249 F3
                have f277 := Fld.ext E249 F4
                have f278 := Fld.ext E249 F5
                have f279 := Fld.ext E249 F6
                have f280 := Fld.ext E249 F7
                have f281 := Fld.ext E249 F8
                have f282 := Fld.ext E249 F9
                have Z249 := Nat.le_trans Z0 E249.1
                refine own_s T249 (mkF m 70 #[iv p1, iv p2, iv 1, u_, u_, u_, u_] [(.ref o6)]) st249 ?_
                refine own_s T249 (mkF m 79 #[iv p1, iv p2, iv 1, rv o6, u_, u_, u_] []) (fun _ k => XS.astoreN X249.here hx rfl (hb hby at_70) rfl rfl (l' := #[iv p1, iv p2, iv 1, rv o6, u_, u_, u_]) rfl (XS.iloadN X249.here hx rfl (hb hby at_71) rfl  (XS.ifNo X249.here hx rfl (hb hby at_72) rfl ((if0 _ _).trans (feq (by decide : ¬ ((1 : Int32) = (0 : Int32)))).1) (XS.aloadN X249.here hx rfl (hb hby at_75) rfl rfl (XS.ifnullNo X249.here hx rfl (hb hby at_76) rfl k))))) ?_
                refine own_s T249 (mkF m 80 #[iv p1, iv p2, iv 1, rv o6, u_, u_, u_] [(.ref o6)]) (fun _ k => XS.aloadN X249.here hx rfl (hb hby at_79) rfl rfl k) ?_
                obtain ⟨v283, T283, L283, X283, hQ283, st283⟩ := own_callV X249 hx hZ (y := own_y2) (z := own_y2) (W := 0) (a := o6) hown (own_h hw 37 rfl) (own_h hw 38 rfl) (notFace_of_selects (args := #[]) (mvT hZ (own_h hw 40 rfl))) (own_h hw 40 rfl) (own_h hw 39 rfl) (own_h hw 2 rfl) (own_h hw 41 rfl) (by decide) (own_rmcod l Z a0 hw [] o6 (70 : Int32) T249.heap n0 Z249 f279) (by decide) (by decide) f269 (g := (mkF m 80 #[iv p1, iv p2, iv 1, rv o6, u_, u_, u_] [(.ref o6)])) rfl (by rw [hml]; rfl) (argsL := []) (rest := []) rfl (lenOf own_pd2 rfl) rfl (by show 2 * 0 + _ ≤ _; exact Nat.le_of_eq rfl) (hb hby at_80) rfl (by decide) (by decide)
                obtain ⟨rfl, Nq283, e283⟩ := hQ283
                have N283 := Fr.app N249 Nq283
                refine own_s T283 (mkF m 83 #[iv p1, iv p2, iv 1, rv o6, u_, u_, u_] [(.int 70)]) st283 ?_
                refine own_s T283 (mkF m 94 #[iv p1, iv p2, iv 1, rv o6, iv 1, u_, u_] []) (fun _ k => XS.iloadN X283.here hx rfl (hb hby at_83) rfl  (XS.icmpNo X283.here hx rfl (hb hby at_84) rfl (teq c39.symm).2 (XS.iconst X283.here hx rfl (hb hby at_87) (XS.goto X283.here hx rfl (pc0 := 88) (pc' := 92) rfl (hb hby at_88) (by decide) (by decide) (XS.istore X283.here hx rfl (hb hby at_92) rfl (l' := #[iv p1, iv p2, iv 1, rv o6, iv 1, u_, u_]) rfl k))))) ?_
                refine own_s T283 (mkF m 108 #[iv p1, iv p2, iv 1, rv o6, iv 1, u_, u_] []) (fun _ k => XS.goto X283.here hx rfl (pc0 := 94) (pc' := 108) rfl (hb hby at_94) (by decide) (by decide) k) ?_
                exact J108 (1 : Int32) (.ref o6) _ _ _ X283 e283 N283 Z249 f250 f251 f252 f253 f254 f255 f256 f257 f258 f259 f260 f261 f262 f263 f264 f265 f266 f267 f268 f269 f270 f271 f272 f273 f274 f275 f276 f277 f278 f279 f280 f281 f282
              · refine own_s s₁ (mkF m 45 #[iv p1, iv p2, u_, u_, u_, u_, u_] [(.int 80), (.int p1)]) (fun _ k => XS.icmpNo X0.here hx rfl (hb hby at_39) rfl (feq c39).1 (XS.iloadN X0.here hx rfl (hb hby at_42) rfl  (XS.bipush X0.here hx rfl (hb hby at_43) k))) ?_
                by_cases c45 : p1 = (80 : Int32)
                · refine own_s s₁ (mkF m 67 #[iv p1, iv p2, iv 1, u_, u_, u_, u_] [(.int p1)]) (fun _ k => XS.icmpYes X0.here hx rfl (pc0 := 45) (pc' := 60) rfl (hb hby at_45) rfl (teq c45).1 (by decide) (by decide) (XS.iconst X0.here hx rfl (hb hby at_60) (XS.goto X0.here hx rfl (pc0 := 61) (pc' := 65) rfl (hb hby at_61) (by decide) (by decide) (XS.istoreN X0.here hx rfl (hb hby at_65) rfl (l' := #[iv p1, iv p2, iv 1, u_, u_, u_, u_]) rfl (XS.iloadN X0.here hx rfl (hb hby at_66) rfl  k))))) ?_
                  obtain ⟨v284, T284, L284, X284, hQ284, st284⟩ := own_callS X0 hx hZ (y := own_y1) (W := 0) hown (own_h hw 0 rfl) (own_h hw 1 rfl) (own_h hw 2 rfl) (own_h hw 3 rfl) (by decide) (own_rmof l Z a0 hw [] p1 vA kA o0 o1 o2 o3 o4 o5 o6 o7 o8 o9 (.ref o7) h0 n0 Z0 VV EV SV F0 F1 F2 F3 F4 F5 F6 F7 F8 F9 (by rw [c45]; simp [own_of])) (by decide) (by decide) (g := (mkF m 67 #[iv p1, iv p2, iv 1, u_, u_, u_, u_] [(.int p1)])) rfl (by rw [hml]; rfl) (argsL := [(.int p1)]) (rest := []) rfl (lenOf own_pd1 rfl) rfl (by show 2 * 0 + _ ≤ _; exact Nat.le_of_eq rfl) (hb hby at_67) e0 (by decide) (by decide)
                  obtain ⟨rfl, Nq284, E284⟩ := hQ284
                  have N284 := Fr.app N0 Nq284
                  have f285 := VV.ext E284
                  have f286 := Exa.ext E284 EV
                  have f287 := Sta.ext E284 SV
                  have f288 := Sta.ext E284 S0
                  have f289 := Sta.ext E284 S1
                  have f290 := Sta.ext E284 S2
                  have f291 := Sta.ext E284 S3
                  have f292 := Sta.ext E284 S4
                  have f293 := Sta.ext E284 S5
                  have f294 := Sta.ext E284 S6
                  have f295 := Sta.ext E284 S7
                  have f296 := Sta.ext E284 S8
                  have f297 := Sta.ext E284 S9
                  have f298 := Exa.ext E284 E0
                  have f299 := Exa.ext E284 E1
                  have f300 := Exa.ext E284 E2
                  have f301 := Exa.ext E284 E3
                  have f302 := Exa.ext E284 E4
                  have f303 := Exa.ext E284 E5
                  have f304 := Exa.ext E284 E6
                  have f305 := Exa.ext E284 E7
                  have f306 := Exa.ext E284 E8
                  have f307 := Exa.ext E284 E9
                  have f308 := Fld.ext E284 F0
                  have f309 := Fld.ext E284 F1
                  have f310 := Fld.ext E284 F2
                  have f311 := Fld.ext E284 F3
                  have f312 := Fld.ext E284 F4
                  have f313 := Fld.ext E284 F5
                  have f314 := Fld.ext E284 F6
                  have f315 := Fld.ext E284 F7
                  have f316 := Fld.ext E284 F8
                  have f317 := Fld.ext E284 F9
                  have Z284 := Nat.le_trans Z0 E284.1
                  refine own_s T284 (mkF m 70 #[iv p1, iv p2, iv 1, u_, u_, u_, u_] [(.ref o7)]) st284 ?_
                  refine own_s T284 (mkF m 79 #[iv p1, iv p2, iv 1, rv o7, u_, u_, u_] []) (fun _ k => XS.astoreN X284.here hx rfl (hb hby at_70) rfl rfl (l' := #[iv p1, iv p2, iv 1, rv o7, u_, u_, u_]) rfl (XS.iloadN X284.here hx rfl (hb hby at_71) rfl  (XS.ifNo X284.here hx rfl (hb hby at_72) rfl ((if0 _ _).trans (feq (by decide : ¬ ((1 : Int32) = (0 : Int32)))).1) (XS.aloadN X284.here hx rfl (hb hby at_75) rfl rfl (XS.ifnullNo X284.here hx rfl (hb hby at_76) rfl k))))) ?_
                  refine own_s T284 (mkF m 80 #[iv p1, iv p2, iv 1, rv o7, u_, u_, u_] [(.ref o7)]) (fun _ k => XS.aloadN X284.here hx rfl (hb hby at_79) rfl rfl k) ?_
                  obtain ⟨v318, T318, L318, X318, hQ318, st318⟩ := own_callV X284 hx hZ (y := own_y2) (z := own_y2) (W := 0) (a := o7) hown (own_h hw 37 rfl) (own_h hw 38 rfl) (notFace_of_selects (args := #[]) (mvT hZ (own_h hw 40 rfl))) (own_h hw 40 rfl) (own_h hw 39 rfl) (own_h hw 2 rfl) (own_h hw 41 rfl) (by decide) (own_rmcod l Z a0 hw [] o7 (80 : Int32) T284.heap n0 Z284 f315) (by decide) (by decide) f305 (g := (mkF m 80 #[iv p1, iv p2, iv 1, rv o7, u_, u_, u_] [(.ref o7)])) rfl (by rw [hml]; rfl) (argsL := []) (rest := []) rfl (lenOf own_pd2 rfl) rfl (by show 2 * 0 + _ ≤ _; exact Nat.le_of_eq rfl) (hb hby at_80) rfl (by decide) (by decide)
                  obtain ⟨rfl, Nq318, e318⟩ := hQ318
                  have N318 := Fr.app N284 Nq318
                  refine own_s T318 (mkF m 83 #[iv p1, iv p2, iv 1, rv o7, u_, u_, u_] [(.int 80)]) st318 ?_
                  refine own_s T318 (mkF m 94 #[iv p1, iv p2, iv 1, rv o7, iv 1, u_, u_] []) (fun _ k => XS.iloadN X318.here hx rfl (hb hby at_83) rfl  (XS.icmpNo X318.here hx rfl (hb hby at_84) rfl (teq c45.symm).2 (XS.iconst X318.here hx rfl (hb hby at_87) (XS.goto X318.here hx rfl (pc0 := 88) (pc' := 92) rfl (hb hby at_88) (by decide) (by decide) (XS.istore X318.here hx rfl (hb hby at_92) rfl (l' := #[iv p1, iv p2, iv 1, rv o7, iv 1, u_, u_]) rfl k))))) ?_
                  refine own_s T318 (mkF m 108 #[iv p1, iv p2, iv 1, rv o7, iv 1, u_, u_] []) (fun _ k => XS.goto X318.here hx rfl (pc0 := 94) (pc' := 108) rfl (hb hby at_94) (by decide) (by decide) k) ?_
                  exact J108 (1 : Int32) (.ref o7) _ _ _ X318 e318 N318 Z284 f285 f286 f287 f288 f289 f290 f291 f292 f293 f294 f295 f296 f297 f298 f299 f300 f301 f302 f303 f304 f305 f306 f307 f308 f309 f310 f311 f312 f313 f314 f315 f316 f317
                · refine own_s s₁ (mkF m 51 #[iv p1, iv p2, u_, u_, u_, u_, u_] [(.int 90), (.int p1)]) (fun _ k => XS.icmpNo X0.here hx rfl (hb hby at_45) rfl (feq c45).1 (XS.iloadN X0.here hx rfl (hb hby at_48) rfl  (XS.bipush X0.here hx rfl (hb hby at_49) k))) ?_
                  by_cases c51 : p1 = (90 : Int32)
                  · refine own_s s₁ (mkF m 67 #[iv p1, iv p2, iv 1, u_, u_, u_, u_] [(.int p1)]) (fun _ k => XS.icmpYes X0.here hx rfl (pc0 := 51) (pc' := 60) rfl (hb hby at_51) rfl (teq c51).1 (by decide) (by decide) (XS.iconst X0.here hx rfl (hb hby at_60) (XS.goto X0.here hx rfl (pc0 := 61) (pc' := 65) rfl (hb hby at_61) (by decide) (by decide) (XS.istoreN X0.here hx rfl (hb hby at_65) rfl (l' := #[iv p1, iv p2, iv 1, u_, u_, u_, u_]) rfl (XS.iloadN X0.here hx rfl (hb hby at_66) rfl  k))))) ?_
                    obtain ⟨v319, T319, L319, X319, hQ319, st319⟩ := own_callS X0 hx hZ (y := own_y1) (W := 0) hown (own_h hw 0 rfl) (own_h hw 1 rfl) (own_h hw 2 rfl) (own_h hw 3 rfl) (by decide) (own_rmof l Z a0 hw [] p1 vA kA o0 o1 o2 o3 o4 o5 o6 o7 o8 o9 (.ref o8) h0 n0 Z0 VV EV SV F0 F1 F2 F3 F4 F5 F6 F7 F8 F9 (by rw [c51]; simp [own_of])) (by decide) (by decide) (g := (mkF m 67 #[iv p1, iv p2, iv 1, u_, u_, u_, u_] [(.int p1)])) rfl (by rw [hml]; rfl) (argsL := [(.int p1)]) (rest := []) rfl (lenOf own_pd1 rfl) rfl (by show 2 * 0 + _ ≤ _; exact Nat.le_of_eq rfl) (hb hby at_67) e0 (by decide) (by decide)
                    obtain ⟨rfl, Nq319, E319⟩ := hQ319
                    have N319 := Fr.app N0 Nq319
                    have f320 := VV.ext E319
                    have f321 := Exa.ext E319 EV
                    have f322 := Sta.ext E319 SV
                    have f323 := Sta.ext E319 S0
                    have f324 := Sta.ext E319 S1
                    have f325 := Sta.ext E319 S2
                    have f326 := Sta.ext E319 S3
                    have f327 := Sta.ext E319 S4
                    have f328 := Sta.ext E319 S5
                    have f329 := Sta.ext E319 S6
                    have f330 := Sta.ext E319 S7
                    have f331 := Sta.ext E319 S8
                    have f332 := Sta.ext E319 S9
                    have f333 := Exa.ext E319 E0
                    have f334 := Exa.ext E319 E1
                    have f335 := Exa.ext E319 E2
                    have f336 := Exa.ext E319 E3
                    have f337 := Exa.ext E319 E4
                    have f338 := Exa.ext E319 E5
                    have f339 := Exa.ext E319 E6
                    have f340 := Exa.ext E319 E7
                    have f341 := Exa.ext E319 E8
                    have f342 := Exa.ext E319 E9
                    have f343 := Fld.ext E319 F0
                    have f344 := Fld.ext E319 F1
                    have f345 := Fld.ext E319 F2
                    have f346 := Fld.ext E319 F3
                    have f347 := Fld.ext E319 F4
                    have f348 := Fld.ext E319 F5
                    have f349 := Fld.ext E319 F6
                    have f350 := Fld.ext E319 F7
                    have f351 := Fld.ext E319 F8
                    have f352 := Fld.ext E319 F9
                    have Z319 := Nat.le_trans Z0 E319.1
                    refine own_s T319 (mkF m 70 #[iv p1, iv p2, iv 1, u_, u_, u_, u_] [(.ref o8)]) st319 ?_
                    refine own_s T319 (mkF m 79 #[iv p1, iv p2, iv 1, rv o8, u_, u_, u_] []) (fun _ k => XS.astoreN X319.here hx rfl (hb hby at_70) rfl rfl (l' := #[iv p1, iv p2, iv 1, rv o8, u_, u_, u_]) rfl (XS.iloadN X319.here hx rfl (hb hby at_71) rfl  (XS.ifNo X319.here hx rfl (hb hby at_72) rfl ((if0 _ _).trans (feq (by decide : ¬ ((1 : Int32) = (0 : Int32)))).1) (XS.aloadN X319.here hx rfl (hb hby at_75) rfl rfl (XS.ifnullNo X319.here hx rfl (hb hby at_76) rfl k))))) ?_
                    refine own_s T319 (mkF m 80 #[iv p1, iv p2, iv 1, rv o8, u_, u_, u_] [(.ref o8)]) (fun _ k => XS.aloadN X319.here hx rfl (hb hby at_79) rfl rfl k) ?_
                    obtain ⟨v353, T353, L353, X353, hQ353, st353⟩ := own_callV X319 hx hZ (y := own_y2) (z := own_y2) (W := 0) (a := o8) hown (own_h hw 37 rfl) (own_h hw 38 rfl) (notFace_of_selects (args := #[]) (mvT hZ (own_h hw 40 rfl))) (own_h hw 40 rfl) (own_h hw 39 rfl) (own_h hw 2 rfl) (own_h hw 41 rfl) (by decide) (own_rmcod l Z a0 hw [] o8 (90 : Int32) T319.heap n0 Z319 f351) (by decide) (by decide) f341 (g := (mkF m 80 #[iv p1, iv p2, iv 1, rv o8, u_, u_, u_] [(.ref o8)])) rfl (by rw [hml]; rfl) (argsL := []) (rest := []) rfl (lenOf own_pd2 rfl) rfl (by show 2 * 0 + _ ≤ _; exact Nat.le_of_eq rfl) (hb hby at_80) rfl (by decide) (by decide)
                    obtain ⟨rfl, Nq353, e353⟩ := hQ353
                    have N353 := Fr.app N319 Nq353
                    refine own_s T353 (mkF m 83 #[iv p1, iv p2, iv 1, rv o8, u_, u_, u_] [(.int 90)]) st353 ?_
                    refine own_s T353 (mkF m 94 #[iv p1, iv p2, iv 1, rv o8, iv 1, u_, u_] []) (fun _ k => XS.iloadN X353.here hx rfl (hb hby at_83) rfl  (XS.icmpNo X353.here hx rfl (hb hby at_84) rfl (teq c51.symm).2 (XS.iconst X353.here hx rfl (hb hby at_87) (XS.goto X353.here hx rfl (pc0 := 88) (pc' := 92) rfl (hb hby at_88) (by decide) (by decide) (XS.istore X353.here hx rfl (hb hby at_92) rfl (l' := #[iv p1, iv p2, iv 1, rv o8, iv 1, u_, u_]) rfl k))))) ?_
                    refine own_s T353 (mkF m 108 #[iv p1, iv p2, iv 1, rv o8, iv 1, u_, u_] []) (fun _ k => XS.goto X353.here hx rfl (pc0 := 94) (pc' := 108) rfl (hb hby at_94) (by decide) (by decide) k) ?_
                    exact J108 (1 : Int32) (.ref o8) _ _ _ X353 e353 N353 Z319 f320 f321 f322 f323 f324 f325 f326 f327 f328 f329 f330 f331 f332 f333 f334 f335 f336 f337 f338 f339 f340 f341 f342 f343 f344 f345 f346 f347 f348 f349 f350 f351 f352
                  · refine own_s s₁ (mkF m 57 #[iv p1, iv p2, u_, u_, u_, u_, u_] [(.int 100), (.int p1)]) (fun _ k => XS.icmpNo X0.here hx rfl (hb hby at_51) rfl (feq c51).1 (XS.iloadN X0.here hx rfl (hb hby at_54) rfl  (XS.bipush X0.here hx rfl (hb hby at_55) k))) ?_
                    by_cases c57 : p1 = (100 : Int32)
                    · refine own_s s₁ (mkF m 67 #[iv p1, iv p2, iv 1, u_, u_, u_, u_] [(.int p1)]) (fun _ k => XS.icmpNo X0.here hx rfl (hb hby at_57) rfl (teq c57).2 (XS.iconst X0.here hx rfl (hb hby at_60) (XS.goto X0.here hx rfl (pc0 := 61) (pc' := 65) rfl (hb hby at_61) (by decide) (by decide) (XS.istoreN X0.here hx rfl (hb hby at_65) rfl (l' := #[iv p1, iv p2, iv 1, u_, u_, u_, u_]) rfl (XS.iloadN X0.here hx rfl (hb hby at_66) rfl  k))))) ?_
                      obtain ⟨v354, T354, L354, X354, hQ354, st354⟩ := own_callS X0 hx hZ (y := own_y1) (W := 0) hown (own_h hw 0 rfl) (own_h hw 1 rfl) (own_h hw 2 rfl) (own_h hw 3 rfl) (by decide) (own_rmof l Z a0 hw [] p1 vA kA o0 o1 o2 o3 o4 o5 o6 o7 o8 o9 (.ref o9) h0 n0 Z0 VV EV SV F0 F1 F2 F3 F4 F5 F6 F7 F8 F9 (by rw [c57]; simp [own_of])) (by decide) (by decide) (g := (mkF m 67 #[iv p1, iv p2, iv 1, u_, u_, u_, u_] [(.int p1)])) rfl (by rw [hml]; rfl) (argsL := [(.int p1)]) (rest := []) rfl (lenOf own_pd1 rfl) rfl (by show 2 * 0 + _ ≤ _; exact Nat.le_of_eq rfl) (hb hby at_67) e0 (by decide) (by decide)
                      obtain ⟨rfl, Nq354, E354⟩ := hQ354
                      have N354 := Fr.app N0 Nq354
                      have f355 := VV.ext E354
                      have f356 := Exa.ext E354 EV
                      have f357 := Sta.ext E354 SV
                      have f358 := Sta.ext E354 S0
                      have f359 := Sta.ext E354 S1
                      have f360 := Sta.ext E354 S2
                      have f361 := Sta.ext E354 S3
                      have f362 := Sta.ext E354 S4
                      have f363 := Sta.ext E354 S5
                      have f364 := Sta.ext E354 S6
                      have f365 := Sta.ext E354 S7
                      have f366 := Sta.ext E354 S8
                      have f367 := Sta.ext E354 S9
                      have f368 := Exa.ext E354 E0
                      have f369 := Exa.ext E354 E1
                      have f370 := Exa.ext E354 E2
                      have f371 := Exa.ext E354 E3
                      have f372 := Exa.ext E354 E4
                      have f373 := Exa.ext E354 E5
                      have f374 := Exa.ext E354 E6
                      have f375 := Exa.ext E354 E7
                      have f376 := Exa.ext E354 E8
                      have f377 := Exa.ext E354 E9
                      have f378 := Fld.ext E354 F0
                      have f379 := Fld.ext E354 F1
                      have f380 := Fld.ext E354 F2
                      have f381 := Fld.ext E354 F3
                      have f382 := Fld.ext E354 F4
                      have f383 := Fld.ext E354 F5
                      have f384 := Fld.ext E354 F6
                      have f385 := Fld.ext E354 F7
                      have f386 := Fld.ext E354 F8
                      have f387 := Fld.ext E354 F9
                      have Z354 := Nat.le_trans Z0 E354.1
                      refine own_s T354 (mkF m 70 #[iv p1, iv p2, iv 1, u_, u_, u_, u_] [(.ref o9)]) st354 ?_
                      refine own_s T354 (mkF m 79 #[iv p1, iv p2, iv 1, rv o9, u_, u_, u_] []) (fun _ k => XS.astoreN X354.here hx rfl (hb hby at_70) rfl rfl (l' := #[iv p1, iv p2, iv 1, rv o9, u_, u_, u_]) rfl (XS.iloadN X354.here hx rfl (hb hby at_71) rfl  (XS.ifNo X354.here hx rfl (hb hby at_72) rfl ((if0 _ _).trans (feq (by decide : ¬ ((1 : Int32) = (0 : Int32)))).1) (XS.aloadN X354.here hx rfl (hb hby at_75) rfl rfl (XS.ifnullNo X354.here hx rfl (hb hby at_76) rfl k))))) ?_
                      refine own_s T354 (mkF m 80 #[iv p1, iv p2, iv 1, rv o9, u_, u_, u_] [(.ref o9)]) (fun _ k => XS.aloadN X354.here hx rfl (hb hby at_79) rfl rfl k) ?_
                      obtain ⟨v388, T388, L388, X388, hQ388, st388⟩ := own_callV X354 hx hZ (y := own_y2) (z := own_y2) (W := 0) (a := o9) hown (own_h hw 37 rfl) (own_h hw 38 rfl) (notFace_of_selects (args := #[]) (mvT hZ (own_h hw 40 rfl))) (own_h hw 40 rfl) (own_h hw 39 rfl) (own_h hw 2 rfl) (own_h hw 41 rfl) (by decide) (own_rmcod l Z a0 hw [] o9 (100 : Int32) T354.heap n0 Z354 f387) (by decide) (by decide) f377 (g := (mkF m 80 #[iv p1, iv p2, iv 1, rv o9, u_, u_, u_] [(.ref o9)])) rfl (by rw [hml]; rfl) (argsL := []) (rest := []) rfl (lenOf own_pd2 rfl) rfl (by show 2 * 0 + _ ≤ _; exact Nat.le_of_eq rfl) (hb hby at_80) rfl (by decide) (by decide)
                      obtain ⟨rfl, Nq388, e388⟩ := hQ388
                      have N388 := Fr.app N354 Nq388
                      refine own_s T388 (mkF m 83 #[iv p1, iv p2, iv 1, rv o9, u_, u_, u_] [(.int 100)]) st388 ?_
                      refine own_s T388 (mkF m 94 #[iv p1, iv p2, iv 1, rv o9, iv 1, u_, u_] []) (fun _ k => XS.iloadN X388.here hx rfl (hb hby at_83) rfl  (XS.icmpNo X388.here hx rfl (hb hby at_84) rfl (teq c57.symm).2 (XS.iconst X388.here hx rfl (hb hby at_87) (XS.goto X388.here hx rfl (pc0 := 88) (pc' := 92) rfl (hb hby at_88) (by decide) (by decide) (XS.istore X388.here hx rfl (hb hby at_92) rfl (l' := #[iv p1, iv p2, iv 1, rv o9, iv 1, u_, u_]) rfl k))))) ?_
                      refine own_s T388 (mkF m 108 #[iv p1, iv p2, iv 1, rv o9, iv 1, u_, u_] []) (fun _ k => XS.goto X388.here hx rfl (pc0 := 94) (pc' := 108) rfl (hb hby at_94) (by decide) (by decide) k) ?_
                      exact J108 (1 : Int32) (.ref o9) _ _ _ X388 e388 N388 Z354 f355 f356 f357 f358 f359 f360 f361 f362 f363 f364 f365 f366 f367 f368 f369 f370 f371 f372 f373 f374 f375 f376 f377 f378 f379 f380 f381 f382 f383 f384 f385 f386 f387
                    · refine own_s s₁ (mkF m 67 #[iv p1, iv p2, iv 0, u_, u_, u_, u_] [(.int p1)]) (fun _ k => XS.icmpYes X0.here hx rfl (pc0 := 57) (pc' := 64) rfl (hb hby at_57) rfl (feq c57).2 (by decide) (by decide) (XS.iconst X0.here hx rfl (hb hby at_64) (XS.istoreN X0.here hx rfl (hb hby at_65) rfl (l' := #[iv p1, iv p2, iv 0, u_, u_, u_, u_]) rfl (XS.iloadN X0.here hx rfl (hb hby at_66) rfl  k)))) ?_
                      obtain ⟨v389, T389, L389, X389, hQ389, st389⟩ := own_callS X0 hx hZ (y := own_y1) (W := 0) hown (own_h hw 0 rfl) (own_h hw 1 rfl) (own_h hw 2 rfl) (own_h hw 3 rfl) (by decide) (own_rmof l Z a0 hw [] p1 vA kA o0 o1 o2 o3 o4 o5 o6 o7 o8 o9 .null h0 n0 Z0 VV EV SV F0 F1 F2 F3 F4 F5 F6 F7 F8 F9 (by rw [own_of, if_neg (fun q => c3 q.symm), if_neg (fun q => c9 q.symm), if_neg (fun q => c15 q.symm), if_neg (fun q => c21 q.symm), if_neg (fun q => c27 q.symm), if_neg (fun q => c33 q.symm), if_neg (fun q => c39 q.symm), if_neg (fun q => c45 q.symm), if_neg (fun q => c51 q.symm), if_neg (fun q => c57 q.symm)])) (by decide) (by decide) (g := (mkF m 67 #[iv p1, iv p2, iv 0, u_, u_, u_, u_] [(.int p1)])) rfl (by rw [hml]; rfl) (argsL := [(.int p1)]) (rest := []) rfl (lenOf own_pd1 rfl) rfl (by show 2 * 0 + _ ≤ _; exact Nat.le_of_eq rfl) (hb hby at_67) e0 (by decide) (by decide)
                      obtain ⟨rfl, Nq389, E389⟩ := hQ389
                      have N389 := Fr.app N0 Nq389
                      have f390 := VV.ext E389
                      have f391 := Exa.ext E389 EV
                      have f392 := Sta.ext E389 SV
                      have f393 := Sta.ext E389 S0
                      have f394 := Sta.ext E389 S1
                      have f395 := Sta.ext E389 S2
                      have f396 := Sta.ext E389 S3
                      have f397 := Sta.ext E389 S4
                      have f398 := Sta.ext E389 S5
                      have f399 := Sta.ext E389 S6
                      have f400 := Sta.ext E389 S7
                      have f401 := Sta.ext E389 S8
                      have f402 := Sta.ext E389 S9
                      have f403 := Exa.ext E389 E0
                      have f404 := Exa.ext E389 E1
                      have f405 := Exa.ext E389 E2
                      have f406 := Exa.ext E389 E3
                      have f407 := Exa.ext E389 E4
                      have f408 := Exa.ext E389 E5
                      have f409 := Exa.ext E389 E6
                      have f410 := Exa.ext E389 E7
                      have f411 := Exa.ext E389 E8
                      have f412 := Exa.ext E389 E9
                      have f413 := Fld.ext E389 F0
                      have f414 := Fld.ext E389 F1
                      have f415 := Fld.ext E389 F2
                      have f416 := Fld.ext E389 F3
                      have f417 := Fld.ext E389 F4
                      have f418 := Fld.ext E389 F5
                      have f419 := Fld.ext E389 F6
                      have f420 := Fld.ext E389 F7
                      have f421 := Fld.ext E389 F8
                      have f422 := Fld.ext E389 F9
                      have Z389 := Nat.le_trans Z0 E389.1
                      refine own_s T389 (mkF m 70 #[iv p1, iv p2, iv 0, u_, u_, u_, u_] [.null]) st389 ?_
                      refine own_s T389 (mkF m 101 #[iv p1, iv p2, iv 0, .val .null, u_, u_, u_] []) (fun _ k => XS.astoreN X389.here hx rfl (hb hby at_70) rfl rfl (l' := #[iv p1, iv p2, iv 0, .val .null, u_, u_, u_]) rfl (XS.iloadN X389.here hx rfl (hb hby at_71) rfl  (XS.ifYes X389.here hx rfl (pc0 := 72) (pc' := 97) rfl (hb hby at_72) rfl ((if0 _ _).trans (teq (by decide : ((0 : Int32) = (0 : Int32)))).1) (by decide) (by decide) (XS.aloadN X389.here hx rfl (hb hby at_97) rfl rfl (XS.ifnonnullNo X389.here hx rfl (hb hby at_98) rfl k))))) ?_
                      refine own_s T389 (mkF m 108 #[iv p1, iv p2, iv 0, .val .null, iv 1, u_, u_] []) (fun _ k => XS.iconst X389.here hx rfl (hb hby at_101) (XS.goto X389.here hx rfl (pc0 := 102) (pc' := 106) rfl (hb hby at_102) (by decide) (by decide) (XS.istore X389.here hx rfl (hb hby at_106) rfl (l' := #[iv p1, iv p2, iv 0, .val .null, iv 1, u_, u_]) rfl k))) ?_
                      exact J108 (0 : Int32) .null _ _ _ X389 rfl N389 Z389 f390 f391 f392 f393 f394 f395 f396 f397 f398 f399 f400 f401 f402 f403 f404 f405 f406 f407 f408 f409 f410 f411 f412 f413 f414 f415 f416 f417 f418 f419 f420 f421 f422
theorem own_eqI {args : Array Value} {s : State} {a b : Term} {z k : Int32} (hx : a.eval args s none [] s = some (.int z)) (hy : b.eval args s none [] s = some (.int k)) (h : (Jvm.Cond.eq a b).value args s none s [] = some true) : z = k := by
  simpa [Cond.value, hx, hy] using h
theorem own_fldAt {args : Array Value} {s : State} {t : Term} {a : Addr} {Cc n d : String} {k : Int32} (h : (Jvm.Cond.eq (.field t Cc n d) (.int k)).value args s none s [] = some true) (ht : t.eval args s none [] s = some (.ref a)) : Fld s s.heap a Cc n d (.int k) := by
  obtain ⟨x, y, hx, hy, k1, k2⟩ := cmp_v (Or.inl h)
  have hy' : some (Value.int k) = some y := hy
  cases hy'
  obtain ⟨z, rfl⟩ := k2
  have e : z = k := own_eqI hx hy h
  subst e
  exact Fld.start ((fld_at ht).symm.trans hx)
theorem own_fldR {args : Array Value} {s : State} {t : Term} {a b : Addr} {Cc n d : String} (ht : t.eval args s none [] s = some (.ref a)) (hx : (Term.field t Cc n d).eval args s none [] s = some (.ref b)) : Fld s s.heap a Cc n d (.ref b) := Fld.start ((fld_at ht).symm.trans hx)
theorem own_elemAt {args : Array Value} {s : State} {t u : Term} {a o : Addr} {cl : Cell} {i : Int32} {j : Nat} (h : (Jvm.Cond.eq (.elem t (.int i)) u).value args s none s [] = some true) (ht : t.eval args s none [] s = some (.ref a)) (hu : u.eval args s none [] s = some (.ref o)) (hc : s.heap[a]? = some cl) (hij : i.toNatClampNeg = j) : cl.slots[j]? = some (.ref o) := by
  obtain ⟨x, y, hx, hy, k1, k2⟩ := cmp_v (Or.inl h)
  cases hu.symm.trans hy
  have q := gotT (eq_R hx hy k2.2 rfl) h
  subst q
  have := (elem_in hx ht rfl hc).2
  rw [hij] at this
  exact this
theorem own_elemI {args : Array Value} {s : State} {t : Term} {a : Addr} {cl : Cell} {i k : Int32} {j : Nat} (h : (Jvm.Cond.eq (.elem t (.int i)) (.int k)).value args s none s [] = some true) (ht : t.eval args s none [] s = some (.ref a)) (hc : s.heap[a]? = some cl) (hij : i.toNatClampNeg = j) : cl.slots[j]? = some (.int k) := by
  obtain ⟨x, y, hx, hy, k1, k2⟩ := cmp_v (Or.inl h)
  have hy' : some (Value.int k) = some y := hy
  cases hy'
  obtain ⟨z, rfl⟩ := k2
  have e : z = k := own_eqI hx hy h
  subst e
  have := (elem_in hx ht rfl hc).2
  rw [hij] at this
  exact this
theorem own_lenAt {args : Array Value} {s : State} {t : Term} {a : Addr} {cl : Cell} {ty : FieldType} {k : Int32} (h : (Jvm.Cond.eq (.length t) (.int k)).value args s none s [] = some true) (ht : t.eval args s none [] s = some (.ref a)) (A : Arr s s.heap a cl ty) : cl.slots.size < 2 ^ 31 ∧ cl.slots.size.toInt32 = k := by
  obtain ⟨x, y, hx, hy, k1, k2⟩ := cmp_v (Or.inl h)
  have hy' : some (Value.int k) = some y := hy
  cases hy'
  obtain ⟨z, rfl⟩ := k2
  have e : z = k := own_eqI hx hy h
  subst e
  have ha := Arr.fin (U := s) (Vm.Alike.refl _) A
  simp only [Term.eval, ht, ha, Option.bind_eq_bind, Option.bind_some] at hx
  split at hx
  · rename_i q; exact ⟨q, Value.int.inj (Option.some.inj hx)⟩
  · cases hx
theorem own_staI {args : Array Value} {s : State} {Cc n d : String} (h : (Jvm.Cond.isInt (.static Cc n d)).value args s none s [] = some true) (hi : (Jvm.Cond.initializedFor Cc n d).before args s = true) : ∃ z, Sta s s.heap Cc n d (.int z) ∧ (Term.static Cc n d).eval args s none [] s = some (.int z) := by
  obtain ⟨z, e⟩ := is_v h
  exact ⟨z, Sta.start e (Or.inl hi), e⟩
theorem own_not0 {args : Array Value} {s : State} {t : Term} {z k : Int32} (e : t.eval args s none [] s = some (.int z)) (h : (Jvm.Cond.not (.eq t (.int k))).value args s none s [] = some true) : ¬ z = k := fun q => by
  subst q
  have h2 := not_v h
  simp [Cond.value, e, Term.eval] at h2
theorem own_staR {args : Array Value} {s : State} {Cc n d : String} (h : (Jvm.Cond.isRef (.static Cc n d)).value args s none s [] = some true) (hi : (Jvm.Cond.initializedFor Cc n d).before args s = true) : ∃ z, Sta s s.heap Cc n d z ∧ z.isRef = true := by
  obtain ⟨z, e, r⟩ := isR_v h
  exact ⟨z, Sta.start e (Or.inl hi), r⟩
set_option maxRecDepth 65536 in
set_option maxHeartbeats 40000000 in
theorem comes_1 {Post : Tables → Env → Array Value → State → Outcome → State → Prop} (hpost : ∀ tb e args s v u, (limb_1_1.after args s (.returned v) u = true ∧ limb_1_2.after args s (.returned v) u = true ∧ True) → FrameEnd s (.returned v) u (Jvm.fieldLocs frame_1_writes args s ++ Jvm.arrayLocs frame_1_arrays args s ++ Jvm.staticLocs frame_1_statics s) 16 128 → Post tb e args s (.returned v) u) :
    ArmFor flags0 classFile x code maxLocals ret World_1 tables_1 room_1 Calls_1 rest_1 Pre_1 Post := by
  intro l hfl _ _ p e ha hc hk s m args below hf hA hF happ hP
  obtain ⟨hcalls, hrest, hpre⟩ := hP
  obtain ⟨-, -, -, hnamed, -, -, -, hat⟩ := (Spec.applies_iff hf).mp happ
  obtain ⟨hg, hn⟩ := and_e (Cond.before_iff.mp (show (Jvm.Cond.and given_1 narrow_1).before args s = true from hpre))
  obtain ⟨g1, g2⟩ := and_e hg
  obtain ⟨g3, g4⟩ := and_e g2
  obtain ⟨w0, w1, rfl⟩ : ∃ w0 w1 : Value, args = #[w0, w1] := by
    have hs : args.size = 2 := by simpa [Cond.value, given_1] using g1
    obtain ⟨L⟩ := args
    match L, hs with
    | [w0, w1], _ => exact ⟨w0, w1, rfl⟩
  have hw := fun d (hd : d ∈ tables_1) => atoms_spec (ws := Jvm.Cond.code x code maxLocals ret :: tables_1) hat d (List.mem_cons_of_mem _ hd)
  have hfit : Fit s := fun {y c} hc i hi => by
    obtain ⟨ha, rfl⟩ := Array.getElem?_eq_some_iff.mp hc
    have q := List.all_eq_true.mp ((Array.all_eq_true_iff_forall_mem.mp hF) _ (Array.getElem_mem ha)) i (List.mem_range.mpr hi)
    simpa [Array.getElem?_eq_getElem hi] using q
  obtain ⟨i0, ei0⟩ := is_v g3
  obtain rfl : w0 = (.int i0) := Option.some.inj ei0
  obtain ⟨i1, ei1⟩ := is_v g4
  obtain rfl : w1 = (.int i1) := Option.some.inj ei1
  obtain ⟨nA, hn⟩ := and_e hn
  obtain ⟨nE, hn⟩ := and_e hn
  obtain ⟨nL, hn⟩ := and_e hn
  obtain ⟨nx0, hn⟩ := and_e hn
  obtain ⟨nl0, hn⟩ := and_e hn
  obtain ⟨nx1, hn⟩ := and_e hn
  obtain ⟨nl1, hn⟩ := and_e hn
  obtain ⟨nx2, hn⟩ := and_e hn
  obtain ⟨nl2, hn⟩ := and_e hn
  obtain ⟨nx3, hn⟩ := and_e hn
  obtain ⟨nl3, hn⟩ := and_e hn
  obtain ⟨nx4, hn⟩ := and_e hn
  obtain ⟨nl4, hn⟩ := and_e hn
  obtain ⟨nx5, hn⟩ := and_e hn
  obtain ⟨nl5, hn⟩ := and_e hn
  obtain ⟨nx6, hn⟩ := and_e hn
  obtain ⟨nl6, hn⟩ := and_e hn
  obtain ⟨nx7, hn⟩ := and_e hn
  obtain ⟨nl7, hn⟩ := and_e hn
  obtain ⟨nx8, hn⟩ := and_e hn
  obtain ⟨nl8, hn⟩ := and_e hn
  obtain ⟨nx9, hn⟩ := and_e hn
  obtain ⟨nl9, hn⟩ := and_e hn
  obtain ⟨nf0, hn⟩ := and_e hn
  obtain ⟨nf1, hn⟩ := and_e hn
  obtain ⟨nf2, hn⟩ := and_e hn
  obtain ⟨nf3, hn⟩ := and_e hn
  obtain ⟨nf4, hn⟩ := and_e hn
  obtain ⟨nf5, hn⟩ := and_e hn
  obtain ⟨nf6, hn⟩ := and_e hn
  obtain ⟨nf7, hn⟩ := and_e hn
  obtain ⟨nf8, hn⟩ := and_e hn
  have nf9 := hn
  obtain ⟨vA, evA⟩ := exa_v nE
  have EV := Exa.start evA nE
  obtain ⟨cA, AA⟩ := Arr.start evA nA
  have SV := Sta.start evA (Or.inr ⟨(own_h hw 2 rfl), (own_h hw 8 rfl)⟩)
  obtain ⟨o0, ev0⟩ := exa_v nx0
  have E0 := Exa.start ev0 nx0
  have S0 := Sta.start ev0 (Or.inr ⟨(own_h hw 2 rfl), (own_h hw 16 rfl)⟩)
  have F0 := own_fldAt nf0 ev0
  obtain ⟨o1, ev1⟩ := exa_v nx1
  have E1 := Exa.start ev1 nx1
  have S1 := Sta.start ev1 (Or.inr ⟨(own_h hw 2 rfl), (own_h hw 17 rfl)⟩)
  have F1 := own_fldAt nf1 ev1
  obtain ⟨o2, ev2⟩ := exa_v nx2
  have E2 := Exa.start ev2 nx2
  have S2 := Sta.start ev2 (Or.inr ⟨(own_h hw 2 rfl), (own_h hw 18 rfl)⟩)
  have F2 := own_fldAt nf2 ev2
  obtain ⟨o3, ev3⟩ := exa_v nx3
  have E3 := Exa.start ev3 nx3
  have S3 := Sta.start ev3 (Or.inr ⟨(own_h hw 2 rfl), (own_h hw 19 rfl)⟩)
  have F3 := own_fldAt nf3 ev3
  obtain ⟨o4, ev4⟩ := exa_v nx4
  have E4 := Exa.start ev4 nx4
  have S4 := Sta.start ev4 (Or.inr ⟨(own_h hw 2 rfl), (own_h hw 20 rfl)⟩)
  have F4 := own_fldAt nf4 ev4
  obtain ⟨o5, ev5⟩ := exa_v nx5
  have E5 := Exa.start ev5 nx5
  have S5 := Sta.start ev5 (Or.inr ⟨(own_h hw 2 rfl), (own_h hw 21 rfl)⟩)
  have F5 := own_fldAt nf5 ev5
  obtain ⟨o6, ev6⟩ := exa_v nx6
  have E6 := Exa.start ev6 nx6
  have S6 := Sta.start ev6 (Or.inr ⟨(own_h hw 2 rfl), (own_h hw 22 rfl)⟩)
  have F6 := own_fldAt nf6 ev6
  obtain ⟨o7, ev7⟩ := exa_v nx7
  have E7 := Exa.start ev7 nx7
  have S7 := Sta.start ev7 (Or.inr ⟨(own_h hw 2 rfl), (own_h hw 23 rfl)⟩)
  have F7 := own_fldAt nf7 ev7
  obtain ⟨o8, ev8⟩ := exa_v nx8
  have E8 := Exa.start ev8 nx8
  have S8 := Sta.start ev8 (Or.inr ⟨(own_h hw 2 rfl), (own_h hw 24 rfl)⟩)
  have F8 := own_fldAt nf8 ev8
  obtain ⟨o9, ev9⟩ := exa_v nx9
  have E9 := Exa.start ev9 nx9
  have S9 := Sta.start ev9 (Or.inr ⟨(own_h hw 2 rfl), (own_h hw 25 rfl)⟩)
  have F9 := own_fldAt nf9 ev9
  obtain ⟨lz, ls⟩ := own_lenAt nL evA AA
  have VV := Arv.start (vs := [(.ref o0), (.ref o1), (.ref o2), (.ref o3), (.ref o4), (.ref o5), (.ref o6), (.ref o7), (.ref o8), (.ref o9)]) (dv := .null) hfit AA lz ls (by decide) rfl ⟨own_elemAt nl0 evA ev0 AA.1 rfl, own_elemAt nl1 evA ev1 AA.1 rfl, own_elemAt nl2 evA ev2 AA.1 rfl, own_elemAt nl3 evA ev3 AA.1 rfl, own_elemAt nl4 evA ev4 AA.1 rfl, own_elemAt nl5 evA ev5 AA.1 rfl, own_elemAt nl6 evA ev6 AA.1 rfl, own_elemAt nl7 evA ev7 AA.1 rfl, own_elemAt nl8 evA ev8 AA.1 rfl, own_elemAt nl9 evA ev9 AA.1 rfl, trivial⟩
  obtain ⟨n, o, h1, h2, h3, _, L, rfl, ⟨rfl, N⟩, hq⟩ := own_rm0 l s _ hw tables_1 i0 i1 vA cA.cls o0 o1 o2 o3 o4 o5 o6 o7 o8 o9 s.heap s.heap.size (Nat.le_refl _) VV EV SV S0 S1 S2 S3 S4 S5 S6 S7 S8 S9 E0 E1 E2 E3 E4 E5 E6 E7 E8 E9 F0 F1 F2 F3 F4 F5 F6 F7 F8 F9 p e ha hc hk s m _ below hf ((Spec.applies_iff_loose hf).mp happ).1 ⟨rfl, State.Warmed39.refl s, rfl⟩ trivial
  refine ⟨n, _, h1, h2, h3, hpost _ _ _ _ _ _ ⟨Cond.after_iff.mpr rfl, Cond.after_iff.mpr (eq_i res_at (Term.int_eval (1)) rfl), trivial⟩ ⟨hq.1, hq.2.1, (hq.2.2.sift fun y hy => Or.inr (N y hy)).mono (by decide) (by decide)⟩⟩
theorem main_1_1 : Claimed_1_1 := comes_1 fun _ _ _ _ _ _ h hF => ⟨h.1, hF⟩
theorem main_1_2 : Claimed_1_2 := comes_1 fun _ _ _ _ _ _ h hF => ⟨h.2.1, hF⟩
end Jvm.Pilot.@@N@@
namespace Jvm.Pilot.@@N@@
open Jvm Jvm.ClassFile Sem Op Lib Jvm.Free Jvm.Stand Jvm.Pilot.@@N@@.Jvm.D
/-! MADE BY PROGRAM (witnessworld.py) out of the Statement's table words and the real class files: 13 classes; the members and pool entries that the words name. The judged class is class 1, her method 2. -/
namespace start1
open Jvm.ClassFile
def u (s : String) : CpInfo := .utf8 (stringToUtf16 s)
/-- a pool by its gaps: so many unusable entries, then the entry; so many at the end -/
def gap : Nat → List CpInfo → List CpInfo
  | 0, r => r
  | n + 1, r => .unusable :: gap n r
def poolList (es : List (Nat × CpInfo)) (last : Nat) : List CpInfo := es.foldr (fun e r => gap e.1 (e.2 :: r)) (gap last [])
def pool (es : List (Nat × CpInfo)) (last : Nat) : Array CpInfo := ⟨poolList es last⟩
def fileOf (pool : Array CpInfo) (this : Nat) (attrs : Array Attribute := #[]) (ms : Array MethodInfo := #[]) (fl : Nat := 33) (sup : Nat := 0) (ifs : Array Nat := #[]) (fds : Array FieldInfo := #[]) : ClassFile where
  minorVersion := 0
  majorVersion := 65
  constantPool := pool
  accessFlags := fl
  thisClass := this
  superClass := sup
  interfaces := ifs
  fields := fds
  methods := ms
  attributes := attrs
def plain (name : String) (sup : Option ClassId) : Class where
  name := name
  kind := .ordinary
  loader := none
  accessFlags := 33
  super := sup
  interfaces := #[]
  cf := none
  fields := #[]
  methods := #[]
  instanceTypes := #[]
  staticTypes := #[]
  resolved := #[]
  callSites := []
  init := .initialized
  statics := none
  mirror := none

def pool0 : Array CpInfo := pool [(5, u "<init>"), (0, u "()V"), (1, .class_ 10), (1, u "java/lang/Object"), (85, u "clone"), (0, u "()Ljava/lang/Object;")] 26

def k0m0 : Method := { name := "<init>", desc := "()V", sig := { parameters := [], returnType := none }, accessFlags := 1, code := none }
def k0m1 : Method := { name := "clone", desc := "()Ljava/lang/Object;", sig := { parameters := [], returnType := some (.object "java/lang/Object") }, accessFlags := 260, code := none }
/-- java/lang/Object -/
def k0 : Class := { plain "java/lang/Object" none with
  accessFlags := 33
  interfaces := #[]
  cf := some (fileOf pool0 8 #[] #[{ accessFlags := 1, nameIndex := 5, descriptorIndex := 6, attributes := #[] }, { accessFlags := 260, nameIndex := 96, descriptorIndex := 97, attributes := #[] }] 33 0 #[] #[])
  fields := #[]
  methods := #[k0m0, k0m1]
  instanceTypes := #[]
  staticTypes := #[]
  resolved := Array.replicate 124 none
  statics := none }

def pool1 : Array CpInfo := pool [(2, .class_ 4), (1, u "java/lang/Object"), (0, u "<init>"), (0, u "()V"), (0, .integer 2147483647), (0, .fieldref 9 10), (0, .class_ 11), (0, .nameAndType 12 13), (0, u "com/example/tidewire/tidewire/exchange/Status"), (0, u "OK"), (0, u "Lcom/example/tidewire/tidewire/exchange/Status;"), (0, .fieldref 9 15), (0, .nameAndType 16 13), (0, u "CLIENT_TIMEOUT"), (0, .fieldref 9 18), (0, .nameAndType 19 13), (0, u "SERVER_TIMEOUT"), (0, .fieldref 9 21), (0, .nameAndType 22 13), (0, u "BAD_REQUEST"), (0, .fieldref 9 24), (0, .nameAndType 25 13), (0, u "BAD_RESPONSE"), (0, .fieldref 9 27), (0, .nameAndType 28 13), (0, u "SERVICE_NOT_FOUND"), (0, .fieldref 9 30), (0, .nameAndType 31 13), (0, u "SERVICE_ERROR"), (0, .fieldref 9 33), (0, .nameAndType 34 13), (0, u "SERVER_ERROR"), (0, .fieldref 9 36), (0, .nameAndType 37 13), (0, u "CLIENT_ERROR"), (0, .fieldref 9 39), (0, .nameAndType 40 13), (0, u "SERVER_THREADPOOL_EXHAUSTED_ERROR"), (0, .methodref 9 42), (0, .nameAndType 43 44), (0, u "of"), (0, u "(I)Lcom/example/tidewire/tidewire/exchange/Status;"), (0, .methodref 9 46), (0, .nameAndType 47 48), (0, u "code"), (0, u "()I"), (0, .methodref 50 51), (0, .class_ 52), (0, .nameAndType 53 44), (0, u "com/example/tidewire/tidewire/exchange/StatusOfPinLaw"), (0, u "pick"), (3, u "law"), (0, u "(II)Z")] 2

def k1m0 : Method := { name := "<init>", desc := "()V", sig := { parameters := [], returnType := none }, accessFlags := 2, code := none }
def k1c1 : Code := { maxStack := 2, maxLocals := 2, code := method_2_code, exceptionTable := #[], attributes := #[] }
def k1m1 : Method := { name := "pick", desc := "(I)Lcom/example/tidewire/tidewire/exchange/Status;", sig := { parameters := [.int], returnType := some (.object "com/example/tidewire/tidewire/exchange/Status") }, accessFlags := 10, code := some k1c1 }
def k1c2 : Code := { maxStack := 2, maxLocals := 7, code := code, exceptionTable := #[], attributes := #[] }
def k1m2 : Method := { name := "law", desc := "(II)Z", sig := { parameters := [.int, .int], returnType := some .boolean }, accessFlags := 9, code := some k1c2 }
/-- com/example/tidewire/tidewire/exchange/StatusOfPinLaw -/
def k1 : Class := { plain "com/example/tidewire/tidewire/exchange/StatusOfPinLaw" (some 0) with
  accessFlags := 49
  interfaces := #[]
  cf := some (fileOf pool1 50 #[] #[{ accessFlags := 2, nameIndex := 5, descriptorIndex := 6, attributes := #[] }, { accessFlags := 10, nameIndex := 53, descriptorIndex := 44, attributes := #[] }, { accessFlags := 9, nameIndex := 57, descriptorIndex := 58, attributes := #[] }] 49 2 #[] #[])
  fields := #[]
  methods := #[k1m0, k1m1, k1m2]
  instanceTypes := #[]
  staticTypes := #[]
  resolved := Array.replicate 61 none
  statics := none }

def pool2 : Array CpInfo := pool [(1, .class_ 2), (0, u "java/lang/constant/Constable"), (0, .class_ 4), (0, u "java/lang/Object")] 6

/-- java/lang/constant/Constable -/
def k2 : Class := { plain "java/lang/constant/Constable" (some 0) with
  accessFlags := 1537
  interfaces := #[]
  cf := some (fileOf pool2 1 #[] #[] 1537 3 #[] #[])
  fields := #[]
  methods := #[]
  instanceTypes := #[]
  staticTypes := #[]
  resolved := Array.replicate 11 none
  statics := none }

def pool3 : Array CpInfo := pool [(1, .class_ 2), (0, u "java/lang/Comparable"), (0, .class_ 4), (0, u "java/lang/Object")] 7

/-- java/lang/Comparable -/
def k3 : Class := { plain "java/lang/Comparable" (some 0) with
  accessFlags := 1537
  interfaces := #[]
  cf := some (fileOf pool3 1 #[] #[] 1537 3 #[] #[])
  fields := #[]
  methods := #[]
  instanceTypes := #[]
  staticTypes := #[]
  resolved := Array.replicate 12 none
  statics := none }

def pool4 : Array CpInfo := pool [(1, .class_ 2), (0, u "java/io/Serializable"), (0, .class_ 4), (0, u "java/lang/Object")] 2

/-- java/io/Serializable -/
def k4 : Class := { plain "java/io/Serializable" (some 0) with
  accessFlags := 1537
  interfaces := #[]
  cf := some (fileOf pool4 1 #[] #[] 1537 3 #[] #[])
  fields := #[]
  methods := #[]
  instanceTypes := #[]
  staticTypes := #[]
  resolved := Array.replicate 7 none
  statics := none }

def pool5 : Array CpInfo := pool [(2, .class_ 4), (1, u "java/lang/Enum"), (0, u "name"), (0, u "Ljava/lang/String;"), (2, u "ordinal"), (0, u "I"), (1, .class_ 14), (1, u "java/lang/Object"), (4, u "hash"), (86, .class_ 108), (1, u "java/lang/Enum$EnumDesc"), (2, .class_ 112), (0, u "java/lang/constant/Constable"), (0, .class_ 114), (0, u "java/lang/Comparable"), (0, .class_ 116), (0, u "java/io/Serializable")] 87

/-- java/lang/Enum -/
def k5 : Class := { plain "java/lang/Enum" (some 0) with
  accessFlags := 1057
  interfaces := #[2, 3, 4]
  cf := some (fileOf pool5 2 #[.nestMembers #[106]] #[] 1057 12 #[111, 113, 115] #[{ accessFlags := 18, nameIndex := 5, descriptorIndex := 6, attributes := #[] }, { accessFlags := 18, nameIndex := 9, descriptorIndex := 10, attributes := #[] }, { accessFlags := 2, nameIndex := 19, descriptorIndex := 10, attributes := #[] }])
  fields := #[{ name := "name", type := (.object "java/lang/String"), accessFlags := 18, slot := 0, constantValue := 0 }, { name := "ordinal", type := .int, accessFlags := 18, slot := 1, constantValue := 0 }, { name := "hash", type := .int, accessFlags := 2, slot := 2, constantValue := 0 }]
  methods := #[]
  instanceTypes := #[(.object "java/lang/String"), .int, .int]
  staticTypes := #[]
  resolved := Array.replicate 204 none
  statics := none }

def pool6 : Array CpInfo := pool [(1, .class_ 2), (0, u "com/example/tidewire/tidewire/exchange/Status"), (2, u "OK"), (0, u "Lcom/example/tidewire/tidewire/exchange/Status;"), (2, u "CLIENT_TIMEOUT"), (2, u "SERVER_TIMEOUT"), (2, u "BAD_REQUEST"), (2, u "BAD_RESPONSE"), (2, u "SERVICE_NOT_FOUND"), (2, u "SERVICE_ERROR"), (2, u "SERVER_ERROR"), (2, u "CLIENT_ERROR"), (2, u "SERVER_THREADPOOL_EXHAUSTED_ERROR"), (0, .fieldref 1 35), (0, .nameAndType 36 37), (0, u "$VALUES"), (0, u "[Lcom/example/tidewire/tidewire/exchange/Status;"), (0, .methodref 39 40), (0, .class_ 37), (0, .nameAndType 41 42), (0, u "clone"), (0, u "()Ljava/lang/Object;"), (1, .class_ 46), (1, u "java/lang/Enum"), (6, .fieldref 1 54), (0, .nameAndType 55 56), (0, u "code"), (0, u "I"), (0, .methodref 1 58), (0, .nameAndType 59 60), (0, u "values"), (0, u "()[Lcom/example/tidewire/tidewire/exchange/Status;"), (22, u "()I"), (0, u "of"), (0, u "(I)Lcom/example/tidewire/tidewire/exchange/Status;")] 6

def k6c0 : Code := { maxStack := 1, maxLocals := 0, code := prog_9_method_1_code, exceptionTable := #[], attributes := #[] }
def k6m0 : Method := { name := "values", desc := "()[Lcom/example/tidewire/tidewire/exchange/Status;", sig := { parameters := [], returnType := some (.array (.object "com/example/tidewire/tidewire/exchange/Status")) }, accessFlags := 9, code := some k6c0 }
def k6c1 : Code := { maxStack := 1, maxLocals := 1, code := prog_9_method_4_code, exceptionTable := #[], attributes := #[] }
def k6m1 : Method := { name := "code", desc := "()I", sig := { parameters := [], returnType := some .int }, accessFlags := 1, code := some k6c1 }
def k6c2 : Code := { maxStack := 2, maxLocals := 5, code := prog_9_method_5_code, exceptionTable := #[], attributes := #[] }
def k6m2 : Method := { name := "of", desc := "(I)Lcom/example/tidewire/tidewire/exchange/Status;", sig := { parameters := [.int], returnType := some (.object "com/example/tidewire/tidewire/exchange/Status") }, accessFlags := 9, code := some k6c2 }
/-- com/example/tidewire/tidewire/exchange/Status -/
def k6 : Class := { plain "com/example/tidewire/tidewire/exchange/Status" (some 5) with
  accessFlags := 16433
  interfaces := #[]
  cf := some (fileOf pool6 1 #[] #[{ accessFlags := 9, nameIndex := 59, descriptorIndex := 60, attributes := #[] }, { accessFlags := 1, nameIndex := 55, descriptorIndex := 83, attributes := #[] }, { accessFlags := 9, nameIndex := 84, descriptorIndex := 85, attributes := #[] }] 16433 44 #[] #[{ accessFlags := 16409, nameIndex := 5, descriptorIndex := 6, attributes := #[] }, { accessFlags := 16409, nameIndex := 9, descriptorIndex := 6, attributes := #[] }, { accessFlags := 16409, nameIndex := 12, descriptorIndex := 6, attributes := #[] }, { accessFlags := 16409, nameIndex := 15, descriptorIndex := 6, attributes := #[] }, { accessFlags := 16409, nameIndex := 18, descriptorIndex := 6, attributes := #[] }, { accessFlags := 16409, nameIndex := 21, descriptorIndex := 6, attributes := #[] }, { accessFlags := 16409, nameIndex := 24, descriptorIndex := 6, attributes := #[] }, { accessFlags := 16409, nameIndex := 27, descriptorIndex := 6, attributes := #[] }, { accessFlags := 16409, nameIndex := 30, descriptorIndex := 6, attributes := #[] }, { accessFlags := 16409, nameIndex := 33, descriptorIndex := 6, attributes := #[] }, { accessFlags := 18, nameIndex := 55, descriptorIndex := 56, attributes := #[] }, { accessFlags := 4122, nameIndex := 36, descriptorIndex := 37, attributes := #[] }])
  fields := #[{ name := "OK", type := (.object "com/example/tidewire/tidewire/exchange/Status"), accessFlags := 16409, slot := 0, constantValue := 0 }, { name := "CLIENT_TIMEOUT", type := (.object "com/example/tidewire/tidewire/exchange/Status"), accessFlags := 16409, slot := 1, constantValue := 0 }, { name := "SERVER_TIMEOUT", type := (.object "com/example/tidewire/tidewire/exchange/Status"), accessFlags := 16409, slot := 2, constantValue := 0 }, { name := "BAD_REQUEST", type := (.object "com/example/tidewire/tidewire/exchange/Status"), accessFlags := 16409, slot := 3, constantValue := 0 }, { name := "BAD_RESPONSE", type := (.object "com/example/tidewire/tidewire/exchange/Status"), accessFlags := 16409, slot := 4, constantValue := 0 }, { name := "SERVICE_NOT_FOUND", type := (.object "com/example/tidewire/tidewire/exchange/Status"), accessFlags := 16409, slot := 5, constantValue := 0 }, { name := "SERVICE_ERROR", type := (.object "com/example/tidewire/tidewire/exchange/Status"), accessFlags := 16409, slot := 6, constantValue := 0 }, { name := "SERVER_ERROR", type := (.object "com/example/tidewire/tidewire/exchange/Status"), accessFlags := 16409, slot := 7, constantValue := 0 }, { name := "CLIENT_ERROR", type := (.object "com/example/tidewire/tidewire/exchange/Status"), accessFlags := 16409, slot := 8, constantValue := 0 }, { name := "SERVER_THREADPOOL_EXHAUSTED_ERROR", type := (.object "com/example/tidewire/tidewire/exchange/Status"), accessFlags := 16409, slot := 9, constantValue := 0 }, { name := "code", type := .int, accessFlags := 18, slot := 3, constantValue := 0 }, { name := "$VALUES", type := (.array (.object "com/example/tidewire/tidewire/exchange/Status")), accessFlags := 4122, slot := 10, constantValue := 0 }]
  methods := #[k6m0, k6m1, k6m2]
  instanceTypes := #[(.object "java/lang/String"), .int, .int, .int]
  staticTypes := #[(.object "com/example/tidewire/tidewire/exchange/Status"), (.object "com/example/tidewire/tidewire/exchange/Status"), (.object "com/example/tidewire/tidewire/exchange/Status"), (.object "com/example/tidewire/tidewire/exchange/Status"), (.object "com/example/tidewire/tidewire/exchange/Status"), (.object "com/example/tidewire/tidewire/exchange/Status"), (.object "com/example/tidewire/tidewire/exchange/Status"), (.object "com/example/tidewire/tidewire/exchange/Status"), (.object "com/example/tidewire/tidewire/exchange/Status"), (.object "com/example/tidewire/tidewire/exchange/Status"), (.array (.object "com/example/tidewire/tidewire/exchange/Status"))]
  resolved := Array.replicate 92 none
  statics := some 0 }

def pool7 : Array CpInfo := pool [(1, .class_ 2), (0, u "java/lang/Cloneable"), (0, .class_ 4), (0, u "java/lang/Object")] 2

/-- java/lang/Cloneable -/
def k7 : Class := { plain "java/lang/Cloneable" (some 0) with
  accessFlags := 1537
  interfaces := #[]
  cf := some (fileOf pool7 1 #[] #[] 1537 3 #[] #[])
  fields := #[]
  methods := #[]
  instanceTypes := #[]
  staticTypes := #[]
  resolved := Array.replicate 7 none
  statics := none }

/-- the primitive byte -/
def k8 : Class := { plain "byte" none with kind := .primitive 'B', accessFlags := 0x411 }
/-- [B -/
def k9 : Class := { plain "[B" (some 0) with kind := .array 8 .byte, interfaces := #[7, 4], accessFlags := 1041 }

/-- the primitive int -/
def k10 : Class := { plain "int" none with kind := .primitive 'I', accessFlags := 0x411 }
/-- [I -/
def k11 : Class := { plain "[I" (some 0) with kind := .array 10 .int, interfaces := #[7, 4], accessFlags := 1041 }

/-- [Lcom/example/tidewire/tidewire/exchange/Status; -/
def k12 : Class := { plain "[Lcom/example/tidewire/tidewire/exchange/Status;" (some 0) with kind := .array 6 (.object "com/example/tidewire/tidewire/exchange/Status"), interfaces := #[7, 4], accessFlags := 1041 }

def heap : Heap := #[{ cls := 6, slots := #[.ref 2, .ref 3, .ref 4, .ref 5, .ref 6, .ref 7, .ref 8, .ref 9, .ref 10, .ref 11, .ref 1], vm := .statics 6 },
  { cls := 12, slots := #[.ref 2, .ref 3, .ref 4, .ref 5, .ref 6, .ref 7, .ref 8, .ref 9, .ref 10, .ref 11], vm := .none },
  { cls := 6, slots := #[.null, .int 0, .int 0, .int 20], vm := .none },
  { cls := 6, slots := #[.null, .int 1, .int 0, .int 30], vm := .none },
  { cls := 6, slots := #[.null, .int 2, .int 0, .int 31], vm := .none },
  { cls := 6, slots := #[.null, .int 3, .int 0, .int 40], vm := .none },
  { cls := 6, slots := #[.null, .int 4, .int 0, .int 50], vm := .none },
  { cls := 6, slots := #[.null, .int 5, .int 0, .int 60], vm := .none },
  { cls := 6, slots := #[.null, .int 6, .int 0, .int 70], vm := .none },
  { cls := 6, slots := #[.null, .int 7, .int 0, .int 80], vm := .none },
  { cls := 6, slots := #[.null, .int 8, .int 0, .int 90], vm := .none },
  { cls := 6, slots := #[.null, .int 9, .int 0, .int 100], vm := .none }]
def classes : Array Class := #[k0, k1, k2, k3, k4, k5, k6, k7, k8, k9, k10, k11, k12]
def interned : List (Array UInt16 × Addr) := []
def slotsUsed : Nat := 61
def theMethod : MethodId := ⟨1, 2⟩
def args0 : Array Value := #[.int 5, .int 7]
def aboutOver (below : List Frame) : State where
  vm := { classes := classes, interned := interned.toArray }
  heap := heap
  slotsUsed := slotsUsed
  threads := #[{ frames := .invoking theMethod args0 :: below }]
def below0 : List Frame := [.native { method := ⟨0, 0⟩, args := #[] }]
def about1 : State := aboutOver below0
def p0 : Program := .bare "" "" ""
def e0 : Env := launch0.env 0 0 0
theorem w_frames : about1.frames = Frame.invoking theMethod args0 :: below0 := rfl
set_option maxRecDepth 65536 in
theorem w_args : argsFit about1.vm theMethod args0 = true := by decide +kernel
set_option maxRecDepth 65536 in
theorem w_heap : heapFits about1 = true := by decide +kernel
set_option maxRecDepth 65536 in
theorem w_runnable : about1.curStatus? = some .runnable := by decide +kernel
set_option maxRecDepth 65536 in
theorem w_alone : about1.alone = true := by decide +kernel
set_option maxRecDepth 65536 in
theorem w_named : about1.methodNamed? x = some theMethod := by decide +kernel
set_option maxRecDepth 65536 in
theorem w_hears : about1.hears theMethod below0 = true := by decide +kernel
set_option maxRecDepth 65536 in
theorem w_ripe : about1.ripe theMethod args0 below0 = true := by decide +kernel
theorem w_running : about1.status = .running := rfl
set_option maxRecDepth 65536 in
theorem w_room : about1.hasRoom e0.platform room_1 = true :=
  launch0.hasRoom_least _ room_1 (by decide +kernel) (by decide +kernel) (by decide +kernel) (by decide +kernel) (by decide +kernel) (by decide +kernel)
theorem allAtoms_all (ts : List Jvm.Cond) (a : Array Jvm.Value) (st : Jvm.State) : (allAtoms ts).before a st = ts.all (fun c => c.before a st) := by
  induction ts with
  | nil => rfl
  | cons c t ih =>
    show (Jvm.Cond.and c (allAtoms t)).before a st = _
    rw [Jvm.Cond.before_and, ih, List.all_cons]
def words1 : List Jvm.Cond := Jvm.Cond.code x code maxLocals ret :: tables_1
/-- a 'code' word, met by the world's own term for the bytes: nothing is compared byte by byte -/
theorem code_word {y : MethodName} {bytes : ByteArray} {mx : Nat} {rt : Option FieldType} {a : Array Value} {s : State} {m : MethodId} {meth : Method} {c : Code} (h1 : s.methodNamed? y = some m) (h2 : s.vm.method? m = some meth) (h3 : meth.code = some c) (h4 : c.code = bytes)
    (h5 : (c.maxLocals == mx && c.exceptionTable.isEmpty && decide (c.maxStack ≤ mostOperands) && decide (meth.sig.returnType = rt) && !meth.locks && decide (parseMethodDescriptor y.desc = some meth.sig)) = true) : (Jvm.Cond.code y bytes mx rt).before a s = true := by
  simp only [Bool.and_eq_true, beq_iff_eq, Bool.not_eq_true', decide_eq_true_eq] at h5
  obtain ⟨⟨⟨⟨⟨g1, g2⟩, g3⟩, g4⟩, g5⟩, g6⟩ := h5
  simp [Cond.before, Cond.holds, Cond.value, h1, h2, h3, h4, g1, g2, g3, g4, g5, g6]
def isCode : Jvm.Cond → Bool
  | .code _ _ _ _ => true
  | _ => false
theorem all_split {L : List Jvm.Cond} {P : Jvm.Cond → Bool} (h1 : L.all (fun c => isCode c || P c) = true) (h2 : ∀ c ∈ L.filter isCode, P c = true) : L.all P = true := by
  refine List.all_eq_true.mpr fun c hc => ?_
  have h := List.all_eq_true.mp h1 c hc
  rcases Bool.eq_false_or_eq_true (isCode c) with hi | hi
  · exact h2 c (List.mem_filter.mpr ⟨hc, hi⟩)
  · simpa [hi] using h
set_option maxRecDepth 65536 in
theorem w_c0 : (Jvm.Cond.code x code maxLocals ret).before args0 about1 = true := code_word (m := ⟨1, 2⟩) (meth := k1m2) (c := k1c2) (by decide +kernel) rfl rfl rfl (by decide +kernel)
set_option maxRecDepth 65536 in
theorem w_c1 : (Jvm.Cond.code ({ cls := "com/example/tidewire/tidewire/exchange/Status", name := "of", desc := "(I)Lcom/example/tidewire/tidewire/exchange/Status;" } : Jvm.MethodName) prog_9_method_5_code (5 : Nat) (Option.some (Jvm.ClassFile.FieldType.object "com/example/tidewire/tidewire/exchange/Status"))).before args0 about1 = true := code_word (m := ⟨6, 2⟩) (meth := k6m2) (c := k6c2) (by decide +kernel) rfl rfl rfl (by decide +kernel)
set_option maxRecDepth 65536 in
theorem w_c2 : (Jvm.Cond.code ({ cls := "com/example/tidewire/tidewire/exchange/Status", name := "values", desc := "()[Lcom/example/tidewire/tidewire/exchange/Status;" } : Jvm.MethodName) prog_9_method_1_code (0 : Nat) (Option.some (Jvm.ClassFile.FieldType.array (Jvm.ClassFile.FieldType.object "com/example/tidewire/tidewire/exchange/Status")))).before args0 about1 = true := code_word (m := ⟨6, 0⟩) (meth := k6m0) (c := k6c0) (by decide +kernel) rfl rfl rfl (by decide +kernel)
set_option maxRecDepth 65536 in
theorem w_c3 : (Jvm.Cond.code ({ cls := "com/example/tidewire/tidewire/exchange/StatusOfPinLaw", name := "pick", desc := "(I)Lcom/example/tidewire/tidewire/exchange/Status;" } : Jvm.MethodName) method_2_code (2 : Nat) (Option.some (Jvm.ClassFile.FieldType.object "com/example/tidewire/tidewire/exchange/Status"))).before args0 about1 = true := code_word (m := ⟨1, 1⟩) (meth := k1m1) (c := k1c1) (by decide +kernel) rfl rfl rfl (by decide +kernel)
set_option maxRecDepth 65536 in
theorem w_c4 : (Jvm.Cond.code ({ cls := "com/example/tidewire/tidewire/exchange/Status", name := "code", desc := "()I" } : Jvm.MethodName) prog_9_method_4_code (1 : Nat) (Option.some Jvm.ClassFile.FieldType.int)).before args0 about1 = true := code_word (m := ⟨6, 1⟩) (meth := k6m1) (c := k6c1) (by decide +kernel) rfl rfl rfl (by decide +kernel)
def codes1 : List Jvm.Cond := [Jvm.Cond.code x code maxLocals ret, Jvm.Cond.code ({ cls := "com/example/tidewire/tidewire/exchange/Status", name := "of", desc := "(I)Lcom/example/tidewire/tidewire/exchange/Status;" } : Jvm.MethodName) prog_9_method_5_code (5 : Nat) (Option.some (Jvm.ClassFile.FieldType.object "com/example/tidewire/tidewire/exchange/Status")), Jvm.Cond.code ({ cls := "com/example/tidewire/tidewire/exchange/Status", name := "values", desc := "()[Lcom/example/tidewire/tidewire/exchange/Status;" } : Jvm.MethodName) prog_9_method_1_code (0 : Nat) (Option.some (Jvm.ClassFile.FieldType.array (Jvm.ClassFile.FieldType.object "com/example/tidewire/tidewire/exchange/Status"))), Jvm.Cond.code ({ cls := "com/example/tidewire/tidewire/exchange/StatusOfPinLaw", name := "pick", desc := "(I)Lcom/example/tidewire/tidewire/exchange/Status;" } : Jvm.MethodName) method_2_code (2 : Nat) (Option.some (Jvm.ClassFile.FieldType.object "com/example/tidewire/tidewire/exchange/Status")), Jvm.Cond.code ({ cls := "com/example/tidewire/tidewire/exchange/Status", name := "code", desc := "()I" } : Jvm.MethodName) prog_9_method_4_code (1 : Nat) (Option.some Jvm.ClassFile.FieldType.int)]
set_option maxRecDepth 65536 in
theorem codes_eq : words1.filter isCode = codes1 := rfl
theorem w_codes : ∀ c ∈ words1.filter isCode, c.before args0 about1 = true := by
  rw [codes_eq]
  intro c hc
  simp only [codes1, List.mem_cons, List.not_mem_nil, or_false] at hc
  rcases hc with rfl | rfl | rfl | rfl | rfl
  · exact w_c0
  · exact w_c1
  · exact w_c2
  · exact w_c3
  · exact w_c4
set_option maxRecDepth 65536 in
theorem w_t1 : (words1.take 24).all (fun c => isCode c || c.before args0 about1) = true := by decide +kernel
set_option maxRecDepth 65536 in
theorem w_t2 : ((words1.drop 24).take 24).all (fun c => isCode c || c.before args0 about1) = true := by decide +kernel
set_option maxRecDepth 65536 in
theorem w_t3 : ((words1.drop 24).drop 24).all (fun c => isCode c || c.before args0 about1) = true := by decide +kernel
theorem w_tables : (allAtoms (Jvm.Cond.code x code maxLocals ret :: tables_1)).before args0 about1 = true := by
  rw [allAtoms_all]
  show words1.all (fun c => c.before args0 about1) = true
  refine all_split ?_ w_codes
  rw [← List.take_append_drop 24 words1, List.all_append, w_t1, ← List.take_append_drop 24 (words1.drop 24), List.all_append, w_t2, w_t3]
  rfl
set_option maxRecDepth 65536 in
theorem w_case : (Jvm.Cond.and given_1 narrow_1).before args0 about1 = true := by decide +kernel
theorem w_applies : (headSpec (Jvm.Cond.code x code maxLocals ret :: tables_1) room_1).applies x e0.platform about1 = true :=
  (Spec.applies_iff w_frames).mpr ⟨w_running, w_runnable, w_alone, w_named, w_hears, w_ripe, w_room, w_tables⟩
theorem atStart : AtStart classFile x code maxLocals ret World_1 tables_1 room_1 Calls_1 rest_1 Pre_1 launch0 p0 e0 about1 theMethod args0 below0 :=
  ⟨lists_1, trivial, launch0.admits_env _ _ _, launch0.least_env, fairChoices_fair.cas, fairChoices_fair.clock, w_frames, w_args, w_heap, w_applies, trivial, trivial, w_case⟩
end start1
theorem witness_1 : WitnessClaimed_1 := ⟨start1.p0, start1.e0, start1.about1, start1.theMethod, start1.args0, start1.below0, start1.atStart⟩
end Jvm.Pilot.@@N@@
