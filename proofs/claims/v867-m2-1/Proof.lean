import JvmDerived
import JvmDerived.Pilot.@@N@@Statement
import JvmDerived.Pilot.@@N@@Code
set_option linter.unusedVariables false
set_option linter.unusedSimpArgs false
@@BLOCK:Masks.lean.txt@@
namespace Jvm.Pilot.@@N@@
open Jvm Jvm.ClassFile Sem Op Lib Jvm.Free Jvm.Stand Jvm.LawKit Jvm.RoadKit Bundle Jvm.Pilot.@@N@@.Jvm.D
section Own
variable {p : Program} {l : Launch} {e : Env} {R : Room} {s : State} {m : MethodId} {args : Array Value} {below : List Frame} {meth : Method} {c : Code} {T : State} {locs : List Loc} {cells slots : Nat} {Z : State} {a0 : Array Value} {h : Heap}
def own_Go (p : Program) (e : Env) (below : List Frame) (Q : Outcome → State → Prop) (T : State) (g : JFrame) : Prop := ∃ s₂ o, Steps p.tables e below (T.setTop g) s₂ ∧ s₂.status = .running ∧ Ended s₂ below o ∧ Q o s₂
theorem own_st {Q : Outcome → State → Prop} {T T' : State} {g g' : JFrame} (h : ∀ t, Steps p.tables e below (T'.setTop g') t → Steps p.tables e below (T.setTop g) t) (k : own_Go p e below Q T' g') : own_Go p e below Q T g := by
  obtain ⟨s₂, o, h1, h2⟩ := k
  exact ⟨s₂, o, h _ h1, h2⟩
theorem own_s {Q : Outcome → State → Prop} {T : State} {g : JFrame} (T' : State) (g' : JFrame) (h : ∀ t, Steps p.tables e below (T'.setTop g') t → Steps p.tables e below (T.setTop g) t) (k : own_Go p e below Q T' g') : own_Go p e below Q T g := own_st h k
abbrev u_ : Slot := .unset
abbrev v_ : Slot := .second
theorem own_cast {Q : Outcome → State → Prop} {T : State} {g g' : JFrame} (q : g = g') (k : own_Go p e below Q T g') : own_Go p e below Q T g := q ▸ k
def own_Post (Qv : Option Value → Heap → List Loc → Prop) (kc ks : Nat) (U : State) (o : Outcome) (U' : State) : Prop := ∃ v L, o = .returned v ∧ Qv v U'.heap L ∧ FrameEnd U o U' L kc ks
def own_Met (l : Launch) (Z : State) (y : MethodName) (bytes : ByteArray) (maxL : Nat) (ret : Option FieldType) (ws : List Jvm.Cond) (rm : Room) (h0 : Heap) (as' : Array Value) (Qv : Option Value → Heap → List Loc → Prop) (kc ks : Nat) : Prop :=
  MetFree l y (head1 (Jvm.Cond.code y bytes maxL ret :: ws) rm) (fun a U => a = as' ∧ Z.Warmed39 U.vm ∧ U.heap = h0) (fun _ _ _ _ _ => True) (fun _ U o U' => own_Post Qv kc ks U o U')
theorem own_start {y : MethodName} {bytes : ByteArray} {maxL : Nat} {ret : Option FieldType} {ws : List Jvm.Cond} {rm : Room} {h0 : Heap} {as' : Array Value} {Qv : Option Value → Heap → List Loc → Prop} {kc ks : Nat} (hpl : plainFor y = true)
    (body : ∀ (p : Program) (e : Env) (s : State) (m : MethodId) (below : List Frame) (meth : Method) (c : Code) (s₁ : State), Stand p l e rm s m as' below meth c s₁ [] 0 0 → p.tables.exec = Jvm.exec → Z.Warmed39 s.vm → c.code = bytes → c.maxLocals = maxL → meth.sig.returnType = ret → meth.locks = false → s.vm.findClass y.cls = some m.cls → meth.name = y.name → s₁.heap = h0 → own_Go p e below (own_Post Qv kc ks s) s₁ (entryFrame m as' maxL)) :
    own_Met l Z y bytes maxL ret ws rm h0 as' Qv kc ks := by
  refine MetFree.of_bodySF hpl hisR ?_
  intro p e s m args below meth c s₁ Bd hml0 hP hK
  obtain ⟨rfl, hZ, hh⟩ := hP
  exact body p e s m below meth c s₁ (Stand.of_body Bd) Bd.exec hZ Bd.bytes hml0 Bd.returns Bd.notSynchronized (findClass_of_methodNamed Bd.named) (name_of_methodNamed Bd.named Bd.method).1 (by rw [← hh, Bd.state]; rfl)
def own_PostW (Qv : Option Value → Heap → Vm → List Loc → Prop) (kc ks : Nat) (U : State) (o : Outcome) (U' : State) : Prop := ∃ v L, o = .returned v ∧ Qv v U'.heap U'.vm L ∧ ReturnedEndW U o U' L kc ks
def own_MetW (l : Launch) (Z : State) (y : MethodName) (bytes : ByteArray) (maxL : Nat) (ret : Option FieldType) (ws : List Jvm.Cond) (rm : Room) (h0 : Heap) (J : Vm → Prop) (as' : Array Value) (Qv : Option Value → Heap → Vm → List Loc → Prop) (kc ks : Nat) : Prop :=
  MetFree l y (head1 (Jvm.Cond.code y bytes maxL ret :: ws) rm) (fun a U => a = as' ∧ Z.Warmed39 U.vm ∧ U.heap = h0 ∧ J U.vm) (fun _ _ _ _ _ => True) (fun _ U o U' => own_PostW Qv kc ks U o U')
theorem own_startW {y : MethodName} {bytes : ByteArray} {maxL : Nat} {ret : Option FieldType} {ws : List Jvm.Cond} {rm : Room} {h0 : Heap} {J : Vm → Prop} {as' : Array Value} {Qv : Option Value → Heap → Vm → List Loc → Prop} {kc ks : Nat} (hpl : plainFor y = true)
    (body : ∀ (p : Program) (e : Env) (s : State) (m : MethodId) (below : List Frame) (meth : Method) (c : Code) (s₁ : State), Stand p l e rm (s.setVm s.vm) m as' below meth c s₁ [] 0 0 → p.tables.exec = Jvm.exec → Z.Warmed39 s.vm → c.code = bytes → c.maxLocals = maxL → meth.sig.returnType = ret → meth.locks = false → s.vm.findClass y.cls = some m.cls → meth.name = y.name → s₁.heap = h0 → s.Since s.vm 0 → s.heap = h0 → J s.vm → own_Go p e below (own_PostW Qv kc ks s) s₁ (entryFrame m as' maxL)) :
    own_MetW l Z y bytes maxL ret ws rm h0 J as' Qv kc ks := by
  refine MetFree.of_bodySF hpl hisR ?_
  intro p e s m args below meth c s₁ Bd hml0 hP hK
  obtain ⟨rfl, hZ, hh, hJ⟩ := hP
  exact body p e s m below meth c s₁ (Stand.of_body Bd) Bd.exec hZ Bd.bytes hml0 Bd.returns Bd.notSynchronized (findClass_of_methodNamed Bd.named) (name_of_methodNamed Bd.named Bd.method).1 (by rw [← hh, Bd.state]; rfl) ((State.WarmedH.refl s).since 0) hh hJ
def own_End (e : Env) (below : List Frame) (m : MethodId) (T : State) (v : Option Value) (P : Outcome → State → Prop) : Prop := ∃ fs, (∀ (f : JFrame) (acts : List Action), f.method = m → f.locked = none → f.entered = [] → (doReturn e (T.setTop f) acts v).1 = T.setFrames fs) ∧ (T.setFrames fs).status = .running ∧ Ended (T.setFrames fs) below (.returned v) ∧ P (.returned v) (T.setFrames fs)
theorem own_end {Qv : Option Value → Heap → List Loc → Prop} {kc ks : Nat} (X : Stand p l e R s m args below meth c T locs cells slots) {v : Option Value} (hv : meth.sig.returnType = none → v = none) (hlocks : meth.locks = false) (hc : cells ≤ kc) (hs : slots ≤ ks) (eT : T.heap = h) (q : Qv v h locs) : own_End e below m T v (own_Post Qv kc ks s) := by
  obtain ⟨fs, hr, hrun, hended, hW, hsame⟩ := X.leave hv hlocks
  exact ⟨fs, hr, hrun, hended, _, _, rfl, (by show Qv v T.heap locs; rw [eT]; exact q), ⟨_, rfl⟩, hW, hsame.mono hc hs⟩
theorem own_endW {Qv : Option Value → Heap → Vm → List Loc → Prop} {kc ks : Nat} {vm1 : Vm} (X : Stand p l e R (s.setVm vm1) m args below meth c T locs cells slots) {n : Nat} (hS : s.Since vm1 n) {v : Option Value} (hv : meth.sig.returnType = none → v = none) (hlocks : meth.locks = false) (hc : cells ≤ kc) (hs : slots ≤ ks) (eT : T.heap = h) (hk : n ≤ h.size) (q : ∀ vm', (s.setVm vm1).WarmedH vm' → Qv v h vm' locs) : own_End e below m T v (own_PostW Qv kc ks s) := by
  obtain ⟨fs, hr, hrun, hended, hE⟩ := X.leaveW hS (by rw [eT]; exact hk) hv hlocks
  exact ⟨fs, hr, hrun, hended, _, _, rfl, (by show Qv v T.heap T.vm locs; rw [eT]; exact q _ X.warmed), hE.1, hE.2.1, hE.2.2.1, hE.2.2.2.mono hc hs⟩
theorem own_fin {P : Outcome → State → Prop} {v : Option Value} {g : JFrame} (E : own_End e below m T v P) (st : ∀ fs, (∀ (f : JFrame) (acts : List Action), f.method = m → f.locked = none → f.entered = [] → (doReturn e (T.setTop f) acts v).1 = T.setFrames fs) → Steps p.tables e below (T.setTop g) (T.setFrames fs)) : own_Go p e below P T g := by
  obtain ⟨fs, hr, hrun, hended, q⟩ := E
  exact ⟨_, _, st fs hr, hrun, hended, q⟩
theorem own_some {t : FieldType} {v : Option Value} (hret : meth.sig.returnType = some t) : meth.sig.returnType = none → v = none := fun h => by rw [hret] at h; cases h
theorem own_finV {P : Outcome → State → Prop} (X : Stand p l e R s m args below meth c T locs cells slots) (hx : p.tables.exec = Jvm.exec) (hret : meth.sig.returnType = none) {pc : Nat} {Ls : Array Slot} (hd : decode c.code pc = .ok (.return_, 1)) (E : own_End e below m T none P) : own_Go p e below P T (mkF m pc Ls []) :=
  own_fin E (fun fs hr => X.returnOut hx hret hd hr)
theorem own_finX {P : Outcome → State → Prop} (X : Stand p l e R s m args below meth c T locs cells slots) (hx : p.tables.exec = Jvm.exec) {t : FieldType} (hret : meth.sig.returnType = some t) {pc : Nat} {Ls : Array Slot} {w : Value} {i : Instr} {rest : List Value} (hn : narrow t w = w)
    (hi : (i = .ireturn ∧ (t = .int ∨ t = .boolean ∨ t = .byte ∨ t = .char ∨ t = .short) ∧ ∃ z, w = .int z) ∨ (i = .lreturn ∧ t = .long ∧ ∃ z, w = .long z) ∨ (i = .dreturn ∧ t = .double ∧ ∃ z, w = .double z) ∨ (i = .freturn ∧ t = .float ∧ ∃ z, w = .float z) ∨ (i = .areturn ∧ t.isReference = true ∧ w.isRef = true))
    (hd : decode c.code pc = .ok (i, 1)) (E : own_End e below m T (some w) P) : own_Go p e below P T (mkF m pc Ls (w :: rest)) :=
  own_fin E (fun fs hr => retOut X hx hret hn hi hd hr)
theorem own_finI {P : Outcome → State → Prop} (X : Stand p l e R s m args below meth c T locs cells slots) (hx : p.tables.exec = Jvm.exec) (hret : meth.sig.returnType = some .int) {pc : Nat} {Ls : Array Slot} {z : Int32} {rest : List Value} (hd : decode c.code pc = .ok (.ireturn, 1)) (E : own_End e below m T (some (.int z)) P) : own_Go p e below P T (mkF m pc Ls (.int z :: rest)) :=
  own_finX X hx hret rfl (Or.inl ⟨rfl, Or.inl rfl, _, rfl⟩) hd E
theorem own_finL {P : Outcome → State → Prop} (X : Stand p l e R s m args below meth c T locs cells slots) (hx : p.tables.exec = Jvm.exec) (hret : meth.sig.returnType = some .long) {pc : Nat} {Ls : Array Slot} {z : Int64} {rest : List Value} (hd : decode c.code pc = .ok (.lreturn, 1)) (E : own_End e below m T (some (.long z)) P) : own_Go p e below P T (mkF m pc Ls (.long z :: rest)) :=
  own_finX X hx hret rfl (Or.inr (Or.inl ⟨rfl, rfl, _, rfl⟩)) hd E
theorem own_finD {P : Outcome → State → Prop} (X : Stand p l e R s m args below meth c T locs cells slots) (hx : p.tables.exec = Jvm.exec) (hret : meth.sig.returnType = some .double) {pc : Nat} {Ls : Array Slot} {z : UInt64} {rest : List Value} (hd : decode c.code pc = .ok (.dreturn, 1)) (E : own_End e below m T (some (.double z)) P) : own_Go p e below P T (mkF m pc Ls (.double z :: rest)) :=
  own_finX X hx hret rfl (Or.inr (Or.inr (Or.inl ⟨rfl, rfl, _, rfl⟩))) hd E
theorem own_finA {P : Outcome → State → Prop} (X : Stand p l e R s m args below meth c T locs cells slots) (hx : p.tables.exec = Jvm.exec) {t : FieldType} (hret : meth.sig.returnType = some t) (ht : t.isReference = true) {pc : Nat} {Ls : Array Slot} {w : Value} {rest : List Value} (hw : w.isRef = true) (hd : decode c.code pc = .ok (.areturn, 1)) (E : own_End e below m T (some w) P) : own_Go p e below P T (mkF m pc Ls (w :: rest)) :=
  own_finX X hx hret (by rcases ref_cases hw with rfl | ⟨z, rfl⟩ <;> cases t <;> first | rfl | cases ht) (Or.inr (Or.inr (Or.inr (Or.inr ⟨rfl, ht, hw⟩)))) hd E
theorem own_finZ {P : Outcome → State → Prop} (X : Stand p l e R s m args below meth c T locs cells slots) (hx : p.tables.exec = Jvm.exec) {t : FieldType} (hret : meth.sig.returnType = some t) (ht : t = .boolean ∨ t = .byte ∨ t = .char ∨ t = .short) {pc : Nat} {Ls : Array Slot} {z z' : Int32} {rest : List Value} (hz : nar t z = z') (hd : decode c.code pc = .ok (.ireturn, 1)) (E : own_End e below m T (some (.int z')) P) : own_Go p e below P T (mkF m pc Ls (.int z :: rest)) :=
  own_fin E (fun fs hr => by subst hz; exact retN X hx hret ht hd hr)
theorem own_callS (X : Stand p l e R s m args below meth c T locs cells slots) (hx : p.tables.exec = Jvm.exec) (hZ : Z.Warmed39 s.vm) {own : String} {index : Nat} {y : MethodName} {bytes : ByteArray} {maxL : Nat} {ret : Option FieldType} {rm : Room} {W : Nat} {Q : Option Value → Heap → List Loc → Prop} {argsL rest : List Value} {as' : Array Value}
    (hown : s.vm.findClass own = some m.cls) (w1 : (Cond.methodLink own index y).before a0 Z = true) (w2 : (Cond.static y).before a0 Z = true) (w3 : (Cond.initialized y.cls).before a0 Z = true) (w4 : (Cond.code y bytes maxL ret).before a0 Z = true) (hy : y.cls ≠ "java/lang/invoke/MethodHandle" ∧ y.cls ≠ "java/lang/invoke/VarHandle")
    (hM : own_Met l Z y bytes maxL ret [] rm h as' Q rm.cells rm.slots) (hf : rm.frames + 1 ≤ R.frames) (hl : W + (maxL + 11) + rm.locals ≤ R.locals) {g : JFrame} (hg : g.method = m) (hsz : g.locals.size = c.maxLocals) (has : argsL.toArray = as') (hlen : ∀ sig, parseMethodDescriptor y.desc = some sig → argsL.length = sig.parameters.length) (hstk : g.stack = argsL.reverse ++ rest) (hW : 2 * g.monitorRoom + (rest.map fun v => v.category).sum ≤ W)
    (hd : decode c.code g.pc = .ok (.invokestatic index, 3)) (eT : T.heap = h) (hc : cells + rm.cells ≤ R.cells) (hs : slots + rm.slots ≤ R.slots) :
    ∃ v T' L, Stand p l e R s m args below meth c T' (locs ++ L) (cells + rm.cells) (slots + rm.slots) ∧ Q v T'.heap L ∧ ∀ target, Steps p.tables e below (T'.setTop { g with pc := g.pc + 3, stack := v.toList ++ rest }) target → Steps p.tables e below (T.setTop g) target := by
  obtain ⟨v, _, ⟨T', L', k', n'⟩, -, X', ⟨Lc, hQ, l', y', z'⟩, st⟩ := Jvm.LawKit.callS X hx (y := y) hown (mvT hZ w1) (mvT hZ w2) (mvT hZ w3) (mvT hZ w4) hy (backOf (W := W) hM hZ w4 w3 hf hl) (g := g) hg hsz (argsL := argsL) (rest := rest) hlen hstk hW hd (fun _ _ => ⟨has, eT, hc, hs⟩)
  dsimp only [Pt.U, Pt.locs, Pt.cells, Pt.slots] at X' l' y' z' st hQ
  subst l' y' z'
  exact ⟨v, T', Lc, X', hQ, st⟩
theorem own_callI (X : Stand p l e R s m args below meth c T locs cells slots) (hx : p.tables.exec = Jvm.exec) (hZ : Z.Warmed39 s.vm) {own : String} {index : Nat} {y : MethodName} {bytes : ByteArray} {maxL : Nat} {rm : Room} {W : Nat} {Q : Option Value → Heap → List Loc → Prop} {a : Addr} {argsL rest : List Value} {as' : Array Value} (hyn : y.name = "<init>")
    (hown : s.vm.findClass own = some m.cls) (w1 : (Cond.methodLink own index y).before a0 Z = true) (w2 : (Cond.instanceMethod y).before a0 Z = true) (w3 : (Cond.initialized y.cls).before a0 Z = true) (w4 : (Cond.code y bytes maxL none).before a0 Z = true) (hy : y.cls ≠ "java/lang/invoke/MethodHandle" ∧ y.cls ≠ "java/lang/invoke/VarHandle")
    (hM : own_Met l Z y bytes maxL none [] rm h as' Q rm.cells rm.slots) (hf : rm.frames + 1 ≤ R.frames) (hl : W + (maxL + 11) + rm.locals ≤ R.locals) {g : JFrame} (hg : g.method = m) (hsz : g.locals.size = c.maxLocals) (has : (Value.ref a :: argsL).toArray = as') (hlen : ∀ sig, parseMethodDescriptor y.desc = some sig → argsL.length = sig.parameters.length) (hstk : g.stack = argsL.reverse ++ .ref a :: rest) (hW : 2 * g.monitorRoom + (rest.map fun v => v.category).sum ≤ W)
    (hd : decode c.code g.pc = .ok (.invokespecial index, 3)) (eT : T.heap = h) (hc : cells + rm.cells ≤ R.cells) (hs : slots + rm.slots ≤ R.slots) :
    ∃ v T' L, Stand p l e R s m args below meth c T' (locs ++ L) (cells + rm.cells) (slots + rm.slots) ∧ Q v T'.heap L ∧ ∀ target, Steps p.tables e below (T'.setTop { g with pc := g.pc + 3, stack := v.toList ++ rest }) target → Steps p.tables e below (T.setTop g) target := by
  obtain ⟨v, _, ⟨T', L', k', n'⟩, -, X', ⟨Lc, hQ, l', y', z'⟩, st⟩ := X.specialBack hx (y := y) hyn hown (mvT hZ w1) (mvT hZ w2) (mvT hZ w4) hy (backOf (W := W) hM hZ w4 w3 hf hl) (g := g) hg hsz (Steps.refl _) (a := a) (argsL := argsL) (rest := rest) hlen hstk hW hd (fun _ _ => ⟨has, eT, hc, hs⟩)
  dsimp only [Pt.U, Pt.locs, Pt.cells, Pt.slots] at X' l' y' z' st hQ
  subst l' y' z'
  exact ⟨v, T', Lc, X', hQ, fun t k => st.trans k⟩
theorem own_callV (X : Stand p l e R s m args below meth c T locs cells slots) (hx : p.tables.exec = Jvm.exec) (hZ : Z.Warmed39 s.vm) {own C : String} {index : Nat} {y z : MethodName} {bytes : ByteArray} {maxL : Nat} {ret : Option FieldType} {rm : Room} {W : Nat} {Q : Option Value → Heap → List Loc → Prop} {a : Addr} {argsL rest : List Value} {as' : Array Value}
    (hown : s.vm.findClass own = some m.cls) (w1 : (Cond.methodLink own index y).before a0 Z = true) (w2 : (Cond.declares y).before a0 Z = true) (hnf : NotFace s y) (wsel : (Cond.selects C y z).before a0 Z = true) (wi : (Cond.instanceMethod z).before a0 Z = true) (w3 : (Cond.initialized z.cls).before a0 Z = true) (w4 : (Cond.code z bytes maxL ret).before a0 Z = true) (hy : y.cls ≠ "java/lang/invoke/MethodHandle" ∧ y.cls ≠ "java/lang/invoke/VarHandle")
    (hM : own_Met l Z z bytes maxL ret [] rm h as' Q rm.cells rm.slots) (hf : rm.frames + 1 ≤ R.frames) (hl : W + (maxL + 11) + rm.locals ≤ R.locals) (E : Exa Z h a C) {g : JFrame} (hg : g.method = m) (hsz : g.locals.size = c.maxLocals) (has : (Value.ref a :: argsL).toArray = as') (hlen : ∀ sig, parseMethodDescriptor y.desc = some sig → argsL.length = sig.parameters.length) (hstk : g.stack = argsL.reverse ++ .ref a :: rest) (hW : 2 * g.monitorRoom + (rest.map fun v => v.category).sum ≤ W)
    (hd : decode c.code g.pc = .ok (.invokevirtual index, 3)) (eT : T.heap = h) (hc : cells + rm.cells ≤ R.cells) (hs : slots + rm.slots ≤ R.slots) :
    ∃ v T' L, Stand p l e R s m args below meth c T' (locs ++ L) (cells + rm.cells) (slots + rm.slots) ∧ Q v T'.heap L ∧ ∀ target, Steps p.tables e below (T'.setTop { g with pc := g.pc + 3, stack := v.toList ++ rest }) target → Steps p.tables e below (T.setTop g) target := by
  obtain ⟨cq, kq, qa, qb, qc⟩ := isOf hZ eT E
  obtain ⟨v, _, ⟨T', L', k', n'⟩, -, X', ⟨Lc, hQ, l', y', z'⟩, st⟩ := X.virtualBack hx (y := y) (z := z) hown (mvT hZ w1) (mvT hZ w2) hnf (mvT hZ wsel) (mvT hZ wi) hy (backOf (W := W) hM hZ w4 w3 hf hl) qa qc (g := g) hg hsz (Steps.refl _) (argsL := argsL) (rest := rest) hlen hstk hW hd (fun _ _ => ⟨has, eT, hc, hs⟩)
  dsimp only [Pt.U, Pt.locs, Pt.cells, Pt.slots] at X' l' y' z' st hQ
  subst l' y' z'
  exact ⟨v, T', Lc, X', hQ, fun t k => st.trans k⟩
theorem own_callP (X : Stand p l e R s m args below meth c T locs cells slots) (hx : p.tables.exec = Jvm.exec) (hZ : Z.Warmed39 s.vm) {own C : String} {index : Nat} {y : MethodName} {bytes : ByteArray} {maxL : Nat} {ret : Option FieldType} {rm : Room} {W : Nat} {Q : Option Value → Heap → List Loc → Prop} {a : Addr} {argsL rest : List Value} {as' : Array Value}
    (hown : s.vm.findClass own = some m.cls) (w1 : (Cond.methodLink own index y).before a0 Z = true) (wi : (Cond.instanceMethod y).before a0 Z = true) {kk : Nat} (wn : (Cond.instantiable y.cls kk).before a0 Z = true) (wp : (Cond.privateMethod y).before a0 Z = true) (w3 : (Cond.initialized y.cls).before a0 Z = true) (w4 : (Cond.code y bytes maxL ret).before a0 Z = true) (hy : y.cls ≠ "java/lang/invoke/MethodHandle" ∧ y.cls ≠ "java/lang/invoke/VarHandle")
    (hM : own_Met l Z y bytes maxL ret [] rm h as' Q rm.cells rm.slots) (hf : rm.frames + 1 ≤ R.frames) (hl : W + (maxL + 11) + rm.locals ≤ R.locals) (E : Exa Z h a C) {g : JFrame} (hg : g.method = m) (hsz : g.locals.size = c.maxLocals) (has : (Value.ref a :: argsL).toArray = as') (hlen : ∀ sig, parseMethodDescriptor y.desc = some sig → argsL.length = sig.parameters.length) (hstk : g.stack = argsL.reverse ++ .ref a :: rest) (hW : 2 * g.monitorRoom + (rest.map fun v => v.category).sum ≤ W)
    (hd : decode c.code g.pc = .ok (.invokevirtual index, 3)) (eT : T.heap = h) (hc : cells + rm.cells ≤ R.cells) (hs : slots + rm.slots ≤ R.slots) :
    ∃ v T' L, Stand p l e R s m args below meth c T' (locs ++ L) (cells + rm.cells) (slots + rm.slots) ∧ Q v T'.heap L ∧ ∀ target, Steps p.tables e below (T'.setTop { g with pc := g.pc + 3, stack := v.toList ++ rest }) target → Steps p.tables e below (T.setTop g) target := by
  obtain ⟨cq, q1, q2⟩ := E.cell
  obtain ⟨ci, ki, hi1, hi2, -, hi4, -⟩ := Cond.instantiable_spec (mvT (args := args) hZ wn)
  have hsel : (Cond.selects y.cls y y).before args s = true := selects_self_of_private hi1 hi2 (by simp only [Bool.or_eq_false_iff] at hi4; exact hi4.1) (Cond.privateMethod_at (mvP hZ wp (args := #[]))) (mvT hZ wi) hy
  obtain ⟨v, _, ⟨T', L', k', n'⟩, -, X', ⟨Lc, hQ, l', y', z'⟩, st⟩ := X.privateBack hx (y := y) hown (mvT hZ w1) (mvT hZ wi) hsel (Cond.privateMethod_at (mvP hZ wp (args := #[]))) (mvT hZ w4) hy (backOf (W := W) hM hZ w4 w3 hf hl) (g := g) hg hsz (Steps.refl _) (a := a) (by rw [eT]; exact q1) q2 (argsL := argsL) (rest := rest) hlen hstk hW hd (fun _ _ => ⟨has, eT, hc, hs⟩)
  dsimp only [Pt.U, Pt.locs, Pt.cells, Pt.slots] at X' l' y' z' st hQ
  subst l' y' z'
  exact ⟨v, T', Lc, X', hQ, fun t k => st.trans k⟩
end Own

theorem own_h {a0 : Array Value} {Z : State} (hw : ∀ d ∈ tables_1, d.before a0 Z = true) (i : Nat) {d : Jvm.Cond} (h : tables_1[i]? = some d) : d.before a0 Z = true := hw d (List.mem_of_getElem? h)
def own_b (b : Bool) : Int32 := cond b 1 0
theorem own_b0 {b : Bool} (h : b = false) : own_b b = 0 := by subst h; rfl
theorem own_b1 {b : Bool} (h : ¬ b = false) : ¬ own_b b = 0 := by cases b; exact absurd rfl h; decide
theorem own_narb (b : Bool) : nar .boolean (own_b b) = own_b b := by cases b <;> rfl
theorem own_lclt {a b : Int64} (h : a < b) : lcmpW a b < 0 := by rw [lcW]; exact (lc_lt a b).mpr h
theorem own_lcltN {a b : Int64} (h : ¬ a < b) : ¬ lcmpW a b < 0 := fun q => by rw [lcW] at q; exact h ((lc_lt a b).mp q)
theorem own_lcgt {a b : Int64} (h : b < a) : 0 < lcmpW a b := by rw [lcW]; exact (lc_gt a b).mpr h
theorem own_lcgtN {a b : Int64} (h : ¬ b < a) : ¬ 0 < lcmpW a b := fun q => by rw [lcW] at q; exact h ((lc_gt a b).mp q)
theorem own_lceq {a b : Int64} (h : a = b) : lcmpW a b = 0 := by rw [lcW]; exact (lc_eq a b).mpr h
theorem own_lceqN {a b : Int64} (h : ¬ a = b) : ¬ lcmpW a b = 0 := fun q => by rw [lcW] at q; exact h ((lc_eq a b).mp q)
theorem own_insKeep {Z : State} {h h' : Heap} {a : Addr} {C : String} {bo : Bool} {ws : List Addr} (F : Ins Z h a C bo) (K : Keep h h' ws) : Ins Z h' a C bo := by
  obtain ⟨cell, cT, h1, h2, h3⟩ := F
  obtain ⟨c', q1, q2, q3, -⟩ := K.2.2 _ _ h1
  exact ⟨c', cT, q1, h2, by rw [q2, q3]; exact h3⟩
theorem own_staKeep {Z : State} {h h' : Heap} {C n d : String} {v : Value} (F : Sta Z h C n d v) (K : Keep h h' []) : Sta Z h' C n d v := by
  obtain ⟨cf, i, k, f, st, cell, h1, h2, h3, h4, h5, r⟩ := F
  exact ⟨cf, i, k, f, st, cell, h1, h2, h3, h4, K.2.1 _ _ h5 nin0, r⟩
theorem own_narR {t : FieldType} {w : Value} (hw : w.isRef = true) : narrow t w = w := by rcases ref_cases hw with rfl | ⟨z, rfl⟩ <;> cases t <;> rfl
theorem own_fitR {n : String} {w : Value} (hw : w.isRef = true) : fits (.object n) w = true := by rcases ref_cases hw with rfl | ⟨z, rfl⟩ <;> rfl
theorem own_len {p : Program} {l : Launch} {e : Env} {R : Room} {s : State} {m : MethodId} {args : Array Value} {below : List Frame} {meth : Method} {c : Code} {T : State} {locs : List Loc} {cells slots : Nat} {Z : State} {h : Heap} (X : Stand p l e R s m args below meth c T locs cells slots) (hx : p.tables.exec = Jvm.exec) (hZ : Z.Warmed39 s.vm) (eT : T.heap = h) {a : Addr} {cl : Cell} {ty : FieldType} {z : Int32} (A : Arr Z h a cl ty) (S : cl.slots.size = z.toNatClampNeg) (hz : ¬ z < 0)
    {g : JFrame} (hg : g.method = m) {rest : List Value} (hs : g.stack = .ref a :: rest) (hd : decode c.code g.pc = .ok (.arraylength, 1)) {target : State} (k : Steps p.tables e below (T.setTop { g with pc := g.pc + 1, stack := .int z :: rest }) target) : Steps p.tables e below (T.setTop g) target := by
  refine X.arraylength hx (by rw [eT]; exact A.1) (State.isArrayOf_alike hZ.alike A.2.1) (g := g) hg hs hd _ ?_
  rw [len_of S hz]
  exact k
theorem own_wS {a0 : Array Value} {Z : State} (hw : ∀ d ∈ tables_1, d.before a0 Z = true) : ∀ a ∈ Bundle.stringAtoms, a.before a0 Z = true := fun d hd => by
  simp only [Bundle.stringAtoms, List.mem_cons, List.not_mem_nil, or_false] at hd
  rcases hd with rfl | rfl | rfl | rfl | rfl | rfl | rfl
  · exact own_h hw 10 rfl
  · exact own_h hw 11 rfl
  · exact own_h hw 12 rfl
  · exact own_h hw 13 rfl
  · exact own_h hw 14 rfl
  · exact own_h hw 15 rfl
  · exact own_h hw 16 rfl
def own_mx (a b : Int32) : Int32 := if a < b then b else a
def own_mxL (a b : Int64) : Int64 := if a < b then b else a
def own_wat (w mm : Int32) (sm now : Int64) : Int32 := if own_mxL (0 : Int64) (now - sm) < mm.toInt64 then (own_mxL (1 : Int64) ((own_mxL (0 : Int64) (now - sm) * w.toInt64) / mm.toInt64)).toInt32 else w
theorem own_up0 (x : Int64) : 0 ≤ (own_mxL (0 : Int64) x).toInt := by
  have e0 : (0 : Int64).toInt = 0 := rfl
  unfold own_mxL
  split
  · rename_i h; rw [Int64.lt_iff_toInt_lt] at h; omega
  · omega
theorem own_mnz {x : Int64} {mm : Int32} (h : own_mxL (0 : Int64) x < mm.toInt64) : mm.toInt64 ≠ 0 := fun q => by
  have e0 : (0 : Int64).toInt = 0 := rfl
  have := own_up0 x
  rw [q, Int64.lt_iff_toInt_lt] at h
  omega
theorem own_w1 (x : Int32) : 1 ≤ (own_mx (1 : Int32) (x &&& (2147483647 : Int32))).toInt := by
  have e1 : (1 : Int32).toInt = 1 := rfl
  unfold own_mx
  split
  · rename_i h; rw [Int32.lt_iff_toInt_lt] at h; omega
  · omega
theorem own_m0 (x : Int32) : 0 ≤ (x &&& (2147483647 : Int32)).toInt := by
  have e0 : (0 : Int32).toInt = 0 := rfl
  have := (Jvm.Kit.i32_and_bounds x (m := 2147483647) (by decide)).1
  rw [Int32.le_iff_toInt_le] at this
  omega
/-- the plain numbers -/
theorem own_core {w mm : Int32} {up : Int64} (hw : 1 ≤ w.toInt) (hm : 0 ≤ mm.toInt) (hu : 0 ≤ up.toInt) (h : up < mm.toInt64) :
    ∃ U W M q : Int, U = up.toInt ∧ W = w.toInt ∧ M = mm.toInt ∧ 0 ≤ U ∧ U < M ∧ 1 ≤ W ∧ W < 2147483648 ∧ M < 2147483648 ∧ (up * w.toInt64).toInt = U * W ∧ 0 ≤ U * W ∧ U * W < 4611686018427387904 ∧ q = U * W / M ∧ 0 ≤ q ∧ q < W ∧ q * M ≤ U * W ∧ U * W < (q + 1) * M ∧ (up * w.toInt64 / mm.toInt64).toInt = q := by
  have w2 := w.toInt_lt
  have m2 := mm.toInt_lt
  rw [Int64.lt_iff_toInt_lt, Int32.toInt_toInt64] at h
  have hUW : 0 ≤ up.toInt * w.toInt := Int.mul_nonneg hu (by omega)
  have hlt : up.toInt * w.toInt < 4611686018427387904 := by
    have a1 : up.toInt * w.toInt ≤ 2147483647 * w.toInt := Int.mul_le_mul_of_nonneg_right (by omega) (by omega)
    omega
  have e : (up * w.toInt64).toInt = up.toInt * w.toInt := by
    rw [Int64.toInt_mul, Int32.toInt_toInt64]
    exact Int.bmod_eq_of_le (by omega) (by omega)
  have hq0 : 0 ≤ up.toInt * w.toInt / mm.toInt := Int.ediv_nonneg hUW hm
  have hqW : up.toInt * w.toInt / mm.toInt < w.toInt := by
    apply Int.ediv_lt_of_lt_mul (by omega)
    rw [Int.mul_comm w.toInt]
    exact Int.mul_lt_mul_of_pos_right h (by omega)
  have ed : (up * w.toInt64 / mm.toInt64).toInt = up.toInt * w.toInt / mm.toInt := by
    rw [Int64.toInt_div, e, Int32.toInt_toInt64, Int.tdiv_eq_ediv_of_nonneg hUW]
    exact Int.bmod_eq_of_le (by omega) (by omega)
  exact ⟨_, _, _, _, rfl, rfl, rfl, hu, h, hw, w2, m2, e, hUW, hlt, rfl, hq0, hqW, Int.ediv_mul_le _ (by omega), Int.lt_ediv_add_one_mul_self _ (by omega), ed⟩
theorem own_rv {w mm : Int32} {sm now : Int64} (hw : 1 ≤ w.toInt) (hm : 0 ≤ mm.toInt) (h : own_mxL (0 : Int64) (now - sm) < mm.toInt64) :
    ∃ q : Int, (own_mxL (0 : Int64) (now - sm) * w.toInt64 / mm.toInt64).toInt = q ∧ (own_wat w mm sm now).toInt = (if 1 < q then q else 1) := by
  obtain ⟨U, W, M, q, hU, hW, hM, h1, h2, h3, h4, h5, h6, h7, h8, h9, h10, h11, h12, h13, h14⟩ := own_core hw hm (own_up0 _) h
  refine ⟨q, h14, ?_⟩
  have e1 : (1 : Int64).toInt = 1 := rfl
  have ew : own_wat w mm sm now = (own_mxL (1 : Int64) ((own_mxL (0 : Int64) (now - sm) * w.toInt64) / mm.toInt64)).toInt32 := if_pos h
  rw [ew, Int64.toInt_toInt32]
  generalize own_mxL (0 : Int64) (now - sm) * w.toInt64 / mm.toInt64 = z at h14 ⊢
  have ez : (own_mxL (1 : Int64) z).toInt = (if 1 < q then q else 1) := by
    unfold own_mxL
    by_cases c : (1 : Int64) < z
    · rw [if_pos c]; rw [Int64.lt_iff_toInt_lt] at c; rw [if_pos (by omega)]; exact h14
    · rw [if_neg c]; rw [Int64.lt_iff_toInt_lt] at c; rw [if_neg (by omega)]; exact e1
  rw [ez]
  apply Int.bmod_eq_of_le
  · split <;> omega
  · split <;> omega
theorem own_r1 {w mm : Int32} {sm now : Int64} (hw : 1 ≤ w.toInt) (hm : 0 ≤ mm.toInt) : ¬ own_wat w mm sm now < (1 : Int32) := fun c => by
  have e1 : (1 : Int32).toInt = 1 := rfl
  rw [Int32.lt_iff_toInt_lt] at c
  by_cases h : own_mxL (0 : Int64) (now - sm) < mm.toInt64
  · obtain ⟨q, -, e⟩ := own_rv hw hm h
    rw [e] at c; split at c <;> omega
  · rw [show own_wat w mm sm now = w from if_neg h] at c; omega
theorem own_r2 {w mm : Int32} {sm now : Int64} (hw : 1 ≤ w.toInt) (hm : 0 ≤ mm.toInt) : ¬ w < own_wat w mm sm now := fun c => by
  rw [Int32.lt_iff_toInt_lt] at c
  by_cases h : own_mxL (0 : Int64) (now - sm) < mm.toInt64
  · obtain ⟨q, e0, e⟩ := own_rv hw hm h
    obtain ⟨U, W, M, q', hU, hW, hM, h1, h2, h3, h4, h5, h6, h7, h8, h9, h10, h11, h12, h13, h14⟩ := own_core hw hm (own_up0 _) h
    rw [e0] at h14
    rw [e] at c; split at c <;> omega
  · rw [show own_wat w mm sm now = w from if_neg h] at c; omega
theorem own_r3 {w mm : Int32} {sm now : Int64} (h : ¬ own_mxL (0 : Int64) (now - sm) < mm.toInt64) : own_wat w mm sm now = w := if_neg h
/-- r * m, and (r + 1) * m, as longs -/
theorem own_rm {w mm : Int32} {sm now : Int64} (hw : 1 ≤ w.toInt) (hm : 0 ≤ mm.toInt) (h : own_mxL (0 : Int64) (now - sm) < mm.toInt64) :
    ∃ UW M r : Int, M = mm.toInt ∧ (own_mxL (0 : Int64) (now - sm) * w.toInt64).toInt = UW ∧ ((own_wat w mm sm now).toInt64 * mm.toInt64).toInt = r * M ∧ (((own_wat w mm sm now).toInt64 + (1 : Int64)) * mm.toInt64).toInt = (r + 1) * M ∧ (r * M ≤ UW ∨ r * M = M) ∧ UW < (r + 1) * M := by
  obtain ⟨q, e0, e⟩ := own_rv hw hm h
  obtain ⟨U, W, M, q', hU, hW, hM, h1, h2, h3, h4, h5, h6, h7, h8, h9, h10, h11, h12, h13, h14⟩ := own_core hw hm (own_up0 _) h
  rw [e0] at h14
  subst h14
  obtain ⟨r, hr⟩ : ∃ r : Int, r = (own_wat w mm sm now).toInt := ⟨_, rfl⟩
  have r1 : 1 ≤ r := by rw [hr, e]; split <;> omega
  have r2 : r ≤ W := by rw [hr, e]; split <;> omega
  have e1 : (1 : Int64).toInt = 1 := rfl
  have b1 : r * M ≤ 2147483648 * M := Int.mul_le_mul_of_nonneg_right (by omega) (by omega)
  have b2 : (r + 1) * M ≤ 2147483648 * M := Int.mul_le_mul_of_nonneg_right (by omega) (by omega)
  have b3 : 0 ≤ r * M := Int.mul_nonneg (by omega) (by omega)
  have b4 : 0 ≤ (r + 1) * M := Int.mul_nonneg (by omega) (by omega)
  have s1 : ((own_wat w mm sm now).toInt64 + (1 : Int64)).toInt = r + 1 := by
    rw [Int64.toInt_add, Int32.toInt_toInt64, ← hr, e1]
    exact Int.bmod_eq_of_le (by omega) (by omega)
  refine ⟨U * W, M, r, hM, h6, ?_, ?_, ?_, ?_⟩
  · rw [Int64.toInt_mul, Int32.toInt_toInt64, Int32.toInt_toInt64, ← hr, ← hM]
    exact Int.bmod_eq_of_le (by omega) (by omega)
  · rw [Int64.toInt_mul, s1, Int32.toInt_toInt64, ← hM]
    exact Int.bmod_eq_of_le (by omega) (by omega)
  · rw [e] at hr
    by_cases c : 1 < q
    · rw [if_pos c] at hr; left; rw [hr]; exact h12
    · rw [if_neg c] at hr; right; rw [hr, Int.one_mul]
  · rw [e] at hr
    by_cases c : 1 < q
    · rw [if_pos c] at hr; rw [hr]; exact h13
    · rw [if_neg c] at hr
      have : (q + 1) * M ≤ (r + 1) * M := Int.mul_le_mul_of_nonneg_right (by omega) (by omega)
      omega
theorem own_mxI (a b : Int64) : (own_mxL a b).toInt = a.toInt ∧ b.toInt ≤ a.toInt ∨ (own_mxL a b).toInt = b.toInt ∧ a.toInt < b.toInt := by
  unfold own_mxL
  by_cases c : a < b
  · rw [if_pos c]; rw [Int64.lt_iff_toInt_lt] at c; exact Or.inr ⟨rfl, c⟩
  · rw [if_neg c]; rw [Int64.lt_iff_toInt_lt] at c; exact Or.inl ⟨rfl, by omega⟩
theorem own_r4 {w mm : Int32} {sm now : Int64} (hw : 1 ≤ w.toInt) (hm : 0 ≤ mm.toInt) (h : own_mxL (0 : Int64) (now - sm) < mm.toInt64) : ¬ own_mxL mm.toInt64 (own_mxL (0 : Int64) (now - sm) * w.toInt64) < (own_wat w mm sm now).toInt64 * mm.toInt64 := fun c => by
  obtain ⟨UW, M, r, hM, h1, h2, h3, h4, h5⟩ := own_rm hw hm h
  rw [Int64.lt_iff_toInt_lt, h2] at c
  have q := own_mxI mm.toInt64 (own_mxL (0 : Int64) (now - sm) * w.toInt64)
  rw [h1, Int32.toInt_toInt64] at q
  omega
theorem own_r5 {w mm : Int32} {sm now : Int64} (hw : 1 ≤ w.toInt) (hm : 0 ≤ mm.toInt) (h : own_mxL (0 : Int64) (now - sm) < mm.toInt64) : own_mxL (0 : Int64) (now - sm) * w.toInt64 < ((own_wat w mm sm now).toInt64 + (1 : Int64)) * mm.toInt64 := by
  obtain ⟨UW, M, r, hM, h1, h2, h3, h4, h5⟩ := own_rm hw hm h
  rw [Int64.lt_iff_toInt_lt, h1, h3]
  exact h5

abbrev own_y0 : MethodName := ⟨"java/lang/Math", "max", "(II)I"⟩
theorem own_dmi_0 : decode jdk_29_method_65_code 0 = .ok (.iload_n 0, 1) := by decide +kernel
theorem own_dmi_1 : decode jdk_29_method_65_code 1 = .ok (.iload_n 1, 1) := by decide +kernel
theorem own_dmi_2 : decode jdk_29_method_65_code 2 = .ok (.if_icmp .lt 7, 3) := by decide +kernel
theorem own_dmi_5 : decode jdk_29_method_65_code 5 = .ok (.iload_n 0, 1) := by decide +kernel
theorem own_dmi_6 : decode jdk_29_method_65_code 6 = .ok (.goto 4, 3) := by decide +kernel
theorem own_dmi_9 : decode jdk_29_method_65_code 9 = .ok (.iload_n 1, 1) := by decide +kernel
theorem own_dmi_10 : decode jdk_29_method_65_code 10 = .ok (.ireturn, 1) := by decide +kernel
theorem own_efmi (m : MethodId) (x0 : Int32) (x1 : Int32) : entryFrame m #[(.int x0), (.int x1)] 2 = mkF m 0 #[iv x0, iv x1] [] := by first | (simp [entryFrame, mkF, argsToLocals, Value.category]; done) | rfl
def own_Qmi (Z : State) (p1 : Int32) (p2 : Int32) (h0 : Heap) (n0 : Nat) : Option Value → Heap → List Loc → Prop := fun v h L => v = some (.int (own_mx p1 p2)) ∧ Fr n0 L ∧ h = h0
def own_Rmi : Room := { frames := 0, cells := 0, slots := 0, locals := 0 }
set_option maxRecDepth 65536 in
set_option maxHeartbeats 40000000 in
theorem own_rmmi (l : Launch) (Z : State) (a0 : Array Value) (hw : ∀ d ∈ tables_1, d.before a0 Z = true) (ws : List Jvm.Cond) (p1 : Int32) (p2 : Int32) (h0 : Heap) (n0 : Nat) (Z0 : n0 ≤ h0.size) :
    own_Met l Z own_y0 jdk_29_method_65_code 2 (some .int) ws own_Rmi h0 #[(.int p1), (.int p2)] (own_Qmi Z p1 p2 h0 n0) own_Rmi.cells own_Rmi.slots := by
  refine own_start (Jvm.Free.JP.mathPlain rfl (by decide +kernel)) ?_
  intro p e s m below meth c s₁ X0 hx hZ hby hml hret hlk hown hnm e0
  have hown : s.vm.findClass "java/lang/Math" = some m.cls := hown
  have hml : c.maxLocals = 2 := hml
  have N0 := Fr.nil n0
  refine own_cast (own_efmi m p1 p2) ?_
  refine own_s s₁ (mkF m 2 #[iv p1, iv p2] [(.int p2), (.int p1)]) (fun _ k => XS.iloadN X0.here hx rfl (hb hby own_dmi_0) rfl  (XS.iloadN X0.here hx rfl (hb hby own_dmi_1) rfl  k)) ?_
  by_cases c2 : p1 < p2
  · refine own_s s₁ (mkF m 10 #[iv p1, iv p2] [(.int p2)]) (fun _ k => XS.icmpYes X0.here hx rfl (pc0 := 2) (pc' := 9) rfl (hb hby own_dmi_2) rfl (tlt c2).1 (by decide) (by decide) (XS.iloadN X0.here hx rfl (hb hby own_dmi_9) rfl  k)) ?_
    exact own_finI X0 hx hret (hb hby own_dmi_10) (own_end (Qv := (own_Qmi Z p1 p2 h0 n0)) X0 (own_some hret) hlk (by decide) (by decide) e0 ⟨by simp [own_mx, own_mxL, c2], N0, rfl⟩)
  · refine own_s s₁ (mkF m 10 #[iv p1, iv p2] [(.int p1)]) (fun _ k => XS.icmpNo X0.here hx rfl (hb hby own_dmi_2) rfl (flt c2).1 (XS.iloadN X0.here hx rfl (hb hby own_dmi_5) rfl  (XS.goto X0.here hx rfl (pc0 := 6) (pc' := 10) rfl (hb hby own_dmi_6) (by decide) (by decide) k))) ?_
    exact own_finI X0 hx hret (hb hby own_dmi_10) (own_end (Qv := (own_Qmi Z p1 p2 h0 n0)) X0 (own_some hret) hlk (by decide) (by decide) e0 ⟨by simp [own_mx, own_mxL, c2], N0, rfl⟩)
abbrev own_y1 : MethodName := ⟨"java/lang/Math", "max", "(JJ)J"⟩
theorem own_dml_0 : decode jdk_29_method_66_code 0 = .ok (.lload_n 0, 1) := by decide +kernel
theorem own_dml_1 : decode jdk_29_method_66_code 1 = .ok (.lload_n 2, 1) := by decide +kernel
theorem own_dml_2 : decode jdk_29_method_66_code 2 = .ok (.lcmp, 1) := by decide +kernel
theorem own_dml_3 : decode jdk_29_method_66_code 3 = .ok (.ifCond .lt 7, 3) := by decide +kernel
theorem own_dml_6 : decode jdk_29_method_66_code 6 = .ok (.lload_n 0, 1) := by decide +kernel
theorem own_dml_7 : decode jdk_29_method_66_code 7 = .ok (.goto 4, 3) := by decide +kernel
theorem own_dml_10 : decode jdk_29_method_66_code 10 = .ok (.lload_n 2, 1) := by decide +kernel
theorem own_dml_11 : decode jdk_29_method_66_code 11 = .ok (.lreturn, 1) := by decide +kernel
theorem own_efml (m : MethodId) (x0 : Int64) (x1 : Int64) : entryFrame m #[(.long x0), (.long x1)] 4 = mkF m 0 #[.val (.long x0), v_, .val (.long x1), v_] [] := by first | (simp [entryFrame, mkF, argsToLocals, Value.category]; done) | rfl
def own_Qml (Z : State) (p1 : Int64) (p2 : Int64) (h0 : Heap) (n0 : Nat) : Option Value → Heap → List Loc → Prop := fun v h L => v = some (.long (own_mxL p1 p2)) ∧ Fr n0 L ∧ h = h0
def own_Rml : Room := { frames := 0, cells := 0, slots := 0, locals := 0 }
set_option maxRecDepth 65536 in
set_option maxHeartbeats 40000000 in
theorem own_rmml (l : Launch) (Z : State) (a0 : Array Value) (hw : ∀ d ∈ tables_1, d.before a0 Z = true) (ws : List Jvm.Cond) (p1 : Int64) (p2 : Int64) (h0 : Heap) (n0 : Nat) (Z0 : n0 ≤ h0.size) :
    own_Met l Z own_y1 jdk_29_method_66_code 4 (some .long) ws own_Rml h0 #[(.long p1), (.long p2)] (own_Qml Z p1 p2 h0 n0) own_Rml.cells own_Rml.slots := by
  refine own_start (Jvm.Free.JP.mathPlain rfl (by decide +kernel)) ?_
  intro p e s m below meth c s₁ X0 hx hZ hby hml hret hlk hown hnm e0
  have hown : s.vm.findClass "java/lang/Math" = some m.cls := hown
  have hml : c.maxLocals = 4 := hml
  have N0 := Fr.nil n0
  refine own_cast (own_efml m p1 p2) ?_
  refine own_s s₁ (mkF m 3 #[.val (.long p1), v_, .val (.long p2), v_] [(.int (lcmpW p1 p2))]) (fun _ k => XS.lloadN X0.here hx rfl (hb hby own_dml_0) rfl  (XS.lloadN X0.here hx rfl (hb hby own_dml_1) rfl  (XS.lcmp X0.here hx rfl (hb hby own_dml_2) rfl k))) ?_
  by_cases c3 : p1 < p2
  · refine own_s s₁ (mkF m 11 #[.val (.long p1), v_, .val (.long p2), v_] [(.long p2)]) (fun _ k => XS.ifYes X0.here hx rfl (pc0 := 3) (pc' := 10) rfl (hb hby own_dml_3) rfl ((if0 _ _).trans (tlt (own_lclt c3)).1) (by decide) (by decide) (XS.lloadN X0.here hx rfl (hb hby own_dml_10) rfl  k)) ?_
    exact own_finL X0 hx hret (hb hby own_dml_11) (own_end (Qv := (own_Qml Z p1 p2 h0 n0)) X0 (own_some hret) hlk (by decide) (by decide) e0 ⟨by simp [own_mx, own_mxL, c3], N0, rfl⟩)
  · refine own_s s₁ (mkF m 11 #[.val (.long p1), v_, .val (.long p2), v_] [(.long p1)]) (fun _ k => XS.ifNo X0.here hx rfl (hb hby own_dml_3) rfl ((if0 _ _).trans (flt (own_lcltN c3)).1) (XS.lloadN X0.here hx rfl (hb hby own_dml_6) rfl  (XS.goto X0.here hx rfl (pc0 := 7) (pc' := 11) rfl (hb hby own_dml_7) (by decide) (by decide) k))) ?_
    exact own_finL X0 hx hret (hb hby own_dml_11) (own_end (Qv := (own_Qml Z p1 p2 h0 n0)) X0 (own_some hret) hlk (by decide) (by decide) e0 ⟨by simp [own_mx, own_mxL, c3], N0, rfl⟩)
abbrev own_y2 : MethodName := ⟨"java/lang/Record", "<init>", "()V"⟩
theorem own_pn0 : plainName "java/lang/Record" = true := by first | (simp [plainName, overriddenIn]; done) | decide +kernel
theorem own_drec_0 : decode jdk_30_method_1_code 0 = .ok (.aload_n 0, 1) := by decide +kernel
theorem own_drec_1 : decode jdk_30_method_1_code 1 = .ok (.invokespecial 1, 3) := by decide +kernel
theorem own_drec_4 : decode jdk_30_method_1_code 4 = .ok (.return_, 1) := by decide +kernel
theorem own_efrec (m : MethodId) (x0 : Addr) : entryFrame m #[(.ref x0)] 1 = mkF m 0 #[rv x0] [] := by first | (simp [entryFrame, mkF, argsToLocals, Value.category]; done) | rfl
def own_Qrec (Z : State) (a1 : Addr) (h0 : Heap) (n0 : Nat) : Option Value → Heap → List Loc → Prop := fun v h L => v = none ∧ Fr n0 L ∧ h = h0
def own_Rrec : Room := { frames := 1, cells := 0, slots := 0, locals := 12 }
set_option maxRecDepth 65536 in
set_option maxHeartbeats 40000000 in
theorem own_rmrec (l : Launch) (Z : State) (a0 : Array Value) (hw : ∀ d ∈ tables_1, d.before a0 Z = true) (ws : List Jvm.Cond) (a1 : Addr) (h0 : Heap) (n0 : Nat) (Z0 : n0 ≤ h0.size) :
    own_Met l Z own_y2 jdk_30_method_1_code 1 none ws own_Rrec h0 #[(.ref a1)] (own_Qrec Z a1 h0 n0) own_Rrec.cells own_Rrec.slots := by
  refine own_start (plainFor_of_name own_pn0) ?_
  intro p e s m below meth c s₁ X0 hx hZ hby hml hret hlk hown hnm e0
  have hown : s.vm.findClass "java/lang/Record" = some m.cls := hown
  have hml : c.maxLocals = 1 := hml
  have N0 := Fr.nil n0
  refine own_cast (own_efrec m a1) ?_
  refine own_s s₁ (mkF m 1 #[rv a1] [(.ref a1)]) (fun _ k => XS.aloadN X0.here hx rfl (hb hby own_drec_0) rfl rfl k) ?_
  obtain ⟨T1, X1, e1, st1⟩ := initO X0 hx hZ hown (own_h hw 25 rfl) (own_h hw 26 rfl) (own_h hw 27 rfl) e0 (g := (mkF m 1 #[rv a1] [(.ref a1)])) rfl (by rw [hml]; rfl) rfl (hb hby own_drec_1) (by decide) (W := 0) (by show 2 * 0 + _ ≤ _; exact Nat.le_of_eq rfl) (by decide)
  refine own_s T1 (mkF m 4 #[rv a1] []) st1 ?_
  exact own_finV X1 hx hret (hb hby own_drec_4) (own_end (Qv := (own_Qrec Z a1 h0 n0)) X1 (fun _ => rfl) hlk (by decide) (by decide) e1 ⟨rfl, N0, rfl⟩)
theorem own_pd0 : parseMethodDescriptor "()V" = some ⟨[], none⟩ := by decide +kernel
abbrev own_y3 : MethodName := ⟨"com/example/tidewire/tidewire/rpc/ProviderAddress", "<init>", "(Ljava/lang/String;IIIJ)V"⟩
theorem own_pn1 : plainName "com/example/tidewire/tidewire/rpc/ProviderAddress" = true := by first | (simp [plainName, overriddenIn]; done) | decide +kernel
theorem own_dini_0 : decode prog_29_method_1_code 0 = .ok (.aload_n 0, 1) := by decide +kernel
theorem own_dini_1 : decode prog_29_method_1_code 1 = .ok (.invokespecial 1, 3) := by decide +kernel
theorem own_dini_4 : decode prog_29_method_1_code 4 = .ok (.aload_n 0, 1) := by decide +kernel
theorem own_dini_5 : decode prog_29_method_1_code 5 = .ok (.aload_n 1, 1) := by decide +kernel
theorem own_dini_6 : decode prog_29_method_1_code 6 = .ok (.putfield 7, 3) := by decide +kernel
theorem own_dini_9 : decode prog_29_method_1_code 9 = .ok (.aload_n 0, 1) := by decide +kernel
theorem own_dini_10 : decode prog_29_method_1_code 10 = .ok (.iload_n 2, 1) := by decide +kernel
theorem own_dini_11 : decode prog_29_method_1_code 11 = .ok (.putfield 13, 3) := by decide +kernel
theorem own_dini_14 : decode prog_29_method_1_code 14 = .ok (.aload_n 0, 1) := by decide +kernel
theorem own_dini_15 : decode prog_29_method_1_code 15 = .ok (.iload_n 3, 1) := by decide +kernel
theorem own_dini_16 : decode prog_29_method_1_code 16 = .ok (.putfield 17, 3) := by decide +kernel
theorem own_dini_19 : decode prog_29_method_1_code 19 = .ok (.aload_n 0, 1) := by decide +kernel
theorem own_dini_20 : decode prog_29_method_1_code 20 = .ok (.iload 4, 2) := by decide +kernel
theorem own_dini_22 : decode prog_29_method_1_code 22 = .ok (.putfield 20, 3) := by decide +kernel
theorem own_dini_25 : decode prog_29_method_1_code 25 = .ok (.aload_n 0, 1) := by decide +kernel
theorem own_dini_26 : decode prog_29_method_1_code 26 = .ok (.lload 5, 2) := by decide +kernel
theorem own_dini_28 : decode prog_29_method_1_code 28 = .ok (.putfield 23, 3) := by decide +kernel
theorem own_dini_31 : decode prog_29_method_1_code 31 = .ok (.return_, 1) := by decide +kernel
theorem own_efini (m : MethodId) (x0 : Addr) (x1 : Addr) (x2 : Int32) (x3 : Int32) (x4 : Int32) (x5 : Int64) : entryFrame m #[(.ref x0), (.ref x1), (.int x2), (.int x3), (.int x4), (.long x5)] 7 = mkF m 0 #[rv x0, rv x1, iv x2, iv x3, iv x4, .val (.long x5), v_] [] := by first | (simp [entryFrame, mkF, argsToLocals, Value.category]; done) | rfl
def own_Qini (Z : State) (a1 : Addr) (a2 : Addr) (p3 : Int32) (p4 : Int32) (p5 : Int32) (p6 : Int64) (h0 : Heap) (n0 : Nat) : Option Value → Heap → List Loc → Prop := fun v h L => v = none ∧ Fr n0 L ∧ Keep h0 h [a1] ∧ Exa Z h a1 "com/example/tidewire/tidewire/rpc/ProviderAddress" ∧ Fld Z h a1 "com/example/tidewire/tidewire/rpc/ProviderAddress" "weight" "I" (.int p4) ∧ Fld Z h a1 "com/example/tidewire/tidewire/rpc/ProviderAddress" "warmupMillis" "I" (.int p5) ∧ Fld Z h a1 "com/example/tidewire/tidewire/rpc/ProviderAddress" "startMillis" "J" (.long p6)
def own_Rini : Room := { frames := 2, cells := 0, slots := 0, locals := 24 }
set_option maxRecDepth 65536 in
set_option maxHeartbeats 40000000 in
theorem own_rmini (l : Launch) (Z : State) (a0 : Array Value) (hw : ∀ d ∈ tables_1, d.before a0 Z = true) (ws : List Jvm.Cond) (a1 : Addr) (a2 : Addr) (p3 : Int32) (p4 : Int32) (p5 : Int32) (p6 : Int64) (h0 : Heap) (n0 : Nat) (Z0 : n0 ≤ h0.size) (g_a1 : n0 ≤ a1) (E1 : Exa Z h0 a1 "com/example/tidewire/tidewire/rpc/ProviderAddress") (F0 : Fld Z h0 a1 "com/example/tidewire/tidewire/rpc/ProviderAddress" "host" "Ljava/lang/String;" .null) (F1 : Fld Z h0 a1 "com/example/tidewire/tidewire/rpc/ProviderAddress" "port" "I" (.int 0)) (F2 : Fld Z h0 a1 "com/example/tidewire/tidewire/rpc/ProviderAddress" "weight" "I" (.int 0)) (F3 : Fld Z h0 a1 "com/example/tidewire/tidewire/rpc/ProviderAddress" "warmupMillis" "I" (.int 0)) (F4 : Fld Z h0 a1 "com/example/tidewire/tidewire/rpc/ProviderAddress" "startMillis" "J" (.long 0)) :
    own_Met l Z own_y3 prog_29_method_1_code 7 none ws own_Rini h0 #[(.ref a1), (.ref a2), (.int p3), (.int p4), (.int p5), (.long p6)] (own_Qini Z a1 a2 p3 p4 p5 p6 h0 n0) own_Rini.cells own_Rini.slots := by
  refine own_start (plainFor_of_name own_pn1) ?_
  intro p e s m below meth c s₁ X0 hx hZ hby hml hret hlk hown hnm e0
  have hown : s.vm.findClass "com/example/tidewire/tidewire/rpc/ProviderAddress" = some m.cls := hown
  have hml : c.maxLocals = 7 := hml
  have N0 := Fr.nil n0
  refine own_cast (own_efini m a1 a2 p3 p4 p5 p6) ?_
  refine own_s s₁ (mkF m 1 #[rv a1, rv a2, iv p3, iv p4, iv p5, .val (.long p6), v_] [(.ref a1)]) (fun _ k => XS.aloadN X0.here hx rfl (hb hby own_dini_0) rfl rfl k) ?_
  obtain ⟨v1, T1, L1, X1, hQ1, st1⟩ := own_callI X0 hx hZ (y := own_y2) (W := 0) (a := a1) rfl hown (own_h hw 20 rfl) (own_h hw 21 rfl) (own_h hw 23 rfl) (own_h hw 24 rfl) (by decide) (own_rmrec l Z a0 hw [] a1 h0 n0 Z0) (by decide) (by decide) (g := (mkF m 1 #[rv a1, rv a2, iv p3, iv p4, iv p5, .val (.long p6), v_] [(.ref a1)])) rfl (by rw [hml]; rfl) (argsL := []) (rest := []) rfl (lenOf own_pd0 rfl) rfl (by show 2 * 0 + _ ≤ _; exact Nat.le_of_eq rfl) (hb hby own_dini_1) e0 (by decide) (by decide)
  obtain ⟨rfl, Nq1, e1⟩ := hQ1
  have N1 := Fr.app N0 Nq1
  refine own_s T1 (mkF m 4 #[rv a1, rv a2, iv p3, iv p4, iv p5, .val (.long p6), v_] []) st1 ?_
  refine own_s T1 (mkF m 6 #[rv a1, rv a2, iv p3, iv p4, iv p5, .val (.long p6), v_] [(.ref a2), (.ref a1)]) (fun _ k => XS.aloadN X1.here hx rfl (hb hby own_dini_4) rfl rfl (XS.aloadN X1.here hx rfl (hb hby own_dini_5) rfl rfl k)) ?_
  obtain ⟨T2, h2, X2, e2, W2, st2⟩ := putF X1 hx hZ hown (host := "") (Or.inl (own_h hw 28 rfl)) Via.refl e1 F0 E1 (Or.inr ⟨(own_h hw 29 rfl), rfl, hnm⟩) (own_h hw 7 rfl) (ty := (.object "java/lang/String")) (by decide) rfl rfl (g := (mkF m 6 #[rv a1, rv a2, iv p3, iv p4, iv p5, .val (.long p6), v_] [(.ref a2), (.ref a1)])) rfl rfl (hb hby own_dini_6)
  have Fw2 := Fld.same W2 F0
  have f3 := Exa.wr W2 E1
  have f4 := Fld.other W2 F1 (Or.inr (slot_ne (Or.inr (own_h hw 31 rfl)) (Or.inr (own_h hw 29 rfl)) (by decide) (t := .int) (t' := (.object "java/lang/String")) (by decide) (by decide)))
  have f5 := Fld.other W2 F2 (Or.inr (slot_ne (Or.inr (own_h hw 33 rfl)) (Or.inr (own_h hw 29 rfl)) (by decide) (t := .int) (t' := (.object "java/lang/String")) (by decide) (by decide)))
  have f6 := Fld.other W2 F3 (Or.inr (slot_ne (Or.inr (own_h hw 35 rfl)) (Or.inr (own_h hw 29 rfl)) (by decide) (t := .int) (t' := (.object "java/lang/String")) (by decide) (by decide)))
  have f7 := Fld.other W2 F4 (Or.inr (slot_ne (Or.inr (own_h hw 37 rfl)) (Or.inr (own_h hw 29 rfl)) (by decide) (t := .long) (t' := (.object "java/lang/String")) (by decide) (by decide)))
  have K2 : Keep h0 h2 [a1] := (Keep.refl h0 [a1]).wr W2 (Or.inl (List.mem_of_getElem? (i := 0) rfl))
  have Z2 := Nat.le_trans Z0 (Nat.le_of_eq W2.size.symm)
  have N2 := Fr.snoc X2 N1 g_a1
  refine own_s T2 (mkF m 9 #[rv a1, rv a2, iv p3, iv p4, iv p5, .val (.long p6), v_] []) st2 ?_
  refine own_s T2 (mkF m 11 #[rv a1, rv a2, iv p3, iv p4, iv p5, .val (.long p6), v_] [(.int p3), (.ref a1)]) (fun _ k => XS.aloadN X2.here hx rfl (hb hby own_dini_9) rfl rfl (XS.iloadN X2.here hx rfl (hb hby own_dini_10) rfl  k)) ?_
  obtain ⟨T8, h8, X8, e8, W8, st8⟩ := putF X2 hx hZ hown (host := "") (Or.inl (own_h hw 30 rfl)) Via.refl e2 f4 f3 (Or.inr ⟨(own_h hw 31 rfl), rfl, hnm⟩) (own_h hw 7 rfl) (ty := .int) (by decide) rfl rfl (g := (mkF m 11 #[rv a1, rv a2, iv p3, iv p4, iv p5, .val (.long p6), v_] [(.int p3), (.ref a1)])) rfl rfl (hb hby own_dini_11)
  have Fw8 := Fld.same W8 f4
  have f9 := Exa.wr W8 f3
  have f10 := Fld.other W8 Fw2 (Or.inr (slot_ne (Or.inr (own_h hw 29 rfl)) (Or.inr (own_h hw 31 rfl)) (by decide) (t := (.object "java/lang/String")) (t' := .int) (by decide) (by decide)))
  have f11 := Fld.other W8 f5 (Or.inr (slot_ne (Or.inr (own_h hw 33 rfl)) (Or.inr (own_h hw 31 rfl)) (by decide) (t := .int) (t' := .int) (by decide) (by decide)))
  have f12 := Fld.other W8 f6 (Or.inr (slot_ne (Or.inr (own_h hw 35 rfl)) (Or.inr (own_h hw 31 rfl)) (by decide) (t := .int) (t' := .int) (by decide) (by decide)))
  have f13 := Fld.other W8 f7 (Or.inr (slot_ne (Or.inr (own_h hw 37 rfl)) (Or.inr (own_h hw 31 rfl)) (by decide) (t := .long) (t' := .int) (by decide) (by decide)))
  have K8 : Keep h0 h8 [a1] := K2.wr W8 (Or.inl (List.mem_of_getElem? (i := 0) rfl))
  have Z8 := Nat.le_trans Z2 (Nat.le_of_eq W8.size.symm)
  have N8 := Fr.snoc X8 N2 g_a1
  refine own_s T8 (mkF m 14 #[rv a1, rv a2, iv p3, iv p4, iv p5, .val (.long p6), v_] []) st8 ?_
  refine own_s T8 (mkF m 16 #[rv a1, rv a2, iv p3, iv p4, iv p5, .val (.long p6), v_] [(.int p4), (.ref a1)]) (fun _ k => XS.aloadN X8.here hx rfl (hb hby own_dini_14) rfl rfl (XS.iloadN X8.here hx rfl (hb hby own_dini_15) rfl  k)) ?_
  obtain ⟨T14, h14, X14, e14, W14, st14⟩ := putF X8 hx hZ hown (host := "") (Or.inl (own_h hw 32 rfl)) Via.refl e8 f11 f9 (Or.inr ⟨(own_h hw 33 rfl), rfl, hnm⟩) (own_h hw 7 rfl) (ty := .int) (by decide) rfl rfl (g := (mkF m 16 #[rv a1, rv a2, iv p3, iv p4, iv p5, .val (.long p6), v_] [(.int p4), (.ref a1)])) rfl rfl (hb hby own_dini_16)
  have Fw14 := Fld.same W14 f11
  have f15 := Exa.wr W14 f9
  have f16 := Fld.other W14 f10 (Or.inr (slot_ne (Or.inr (own_h hw 29 rfl)) (Or.inr (own_h hw 33 rfl)) (by decide) (t := (.object "java/lang/String")) (t' := .int) (by decide) (by decide)))
  have f17 := Fld.other W14 Fw8 (Or.inr (slot_ne (Or.inr (own_h hw 31 rfl)) (Or.inr (own_h hw 33 rfl)) (by decide) (t := .int) (t' := .int) (by decide) (by decide)))
  have f18 := Fld.other W14 f12 (Or.inr (slot_ne (Or.inr (own_h hw 35 rfl)) (Or.inr (own_h hw 33 rfl)) (by decide) (t := .int) (t' := .int) (by decide) (by decide)))
  have f19 := Fld.other W14 f13 (Or.inr (slot_ne (Or.inr (own_h hw 37 rfl)) (Or.inr (own_h hw 33 rfl)) (by decide) (t := .long) (t' := .int) (by decide) (by decide)))
  have K14 : Keep h0 h14 [a1] := K8.wr W14 (Or.inl (List.mem_of_getElem? (i := 0) rfl))
  have Z14 := Nat.le_trans Z8 (Nat.le_of_eq W14.size.symm)
  have N14 := Fr.snoc X14 N8 g_a1
  refine own_s T14 (mkF m 19 #[rv a1, rv a2, iv p3, iv p4, iv p5, .val (.long p6), v_] []) st14 ?_
  refine own_s T14 (mkF m 22 #[rv a1, rv a2, iv p3, iv p4, iv p5, .val (.long p6), v_] [(.int p5), (.ref a1)]) (fun _ k => XS.aloadN X14.here hx rfl (hb hby own_dini_19) rfl rfl (XS.iload X14.here hx rfl (hb hby own_dini_20) rfl  k)) ?_
  obtain ⟨T20, h20, X20, e20, W20, st20⟩ := putF X14 hx hZ hown (host := "") (Or.inl (own_h hw 34 rfl)) Via.refl e14 f18 f15 (Or.inr ⟨(own_h hw 35 rfl), rfl, hnm⟩) (own_h hw 7 rfl) (ty := .int) (by decide) rfl rfl (g := (mkF m 22 #[rv a1, rv a2, iv p3, iv p4, iv p5, .val (.long p6), v_] [(.int p5), (.ref a1)])) rfl rfl (hb hby own_dini_22)
  have Fw20 := Fld.same W20 f18
  have f21 := Exa.wr W20 f15
  have f22 := Fld.other W20 f16 (Or.inr (slot_ne (Or.inr (own_h hw 29 rfl)) (Or.inr (own_h hw 35 rfl)) (by decide) (t := (.object "java/lang/String")) (t' := .int) (by decide) (by decide)))
  have f23 := Fld.other W20 f17 (Or.inr (slot_ne (Or.inr (own_h hw 31 rfl)) (Or.inr (own_h hw 35 rfl)) (by decide) (t := .int) (t' := .int) (by decide) (by decide)))
  have f24 := Fld.other W20 Fw14 (Or.inr (slot_ne (Or.inr (own_h hw 33 rfl)) (Or.inr (own_h hw 35 rfl)) (by decide) (t := .int) (t' := .int) (by decide) (by decide)))
  have f25 := Fld.other W20 f19 (Or.inr (slot_ne (Or.inr (own_h hw 37 rfl)) (Or.inr (own_h hw 35 rfl)) (by decide) (t := .long) (t' := .int) (by decide) (by decide)))
  have K20 : Keep h0 h20 [a1] := K14.wr W20 (Or.inl (List.mem_of_getElem? (i := 0) rfl))
  have Z20 := Nat.le_trans Z14 (Nat.le_of_eq W20.size.symm)
  have N20 := Fr.snoc X20 N14 g_a1
  refine own_s T20 (mkF m 25 #[rv a1, rv a2, iv p3, iv p4, iv p5, .val (.long p6), v_] []) st20 ?_
  refine own_s T20 (mkF m 28 #[rv a1, rv a2, iv p3, iv p4, iv p5, .val (.long p6), v_] [(.long p6), (.ref a1)]) (fun _ k => XS.aloadN X20.here hx rfl (hb hby own_dini_25) rfl rfl (XS.lload X20.here hx rfl (hb hby own_dini_26) rfl  k)) ?_
  obtain ⟨T26, h26, X26, e26, W26, st26⟩ := putF X20 hx hZ hown (host := "") (Or.inl (own_h hw 36 rfl)) Via.refl e20 f25 f21 (Or.inr ⟨(own_h hw 37 rfl), rfl, hnm⟩) (own_h hw 7 rfl) (ty := .long) (by decide) rfl rfl (g := (mkF m 28 #[rv a1, rv a2, iv p3, iv p4, iv p5, .val (.long p6), v_] [(.long p6), (.ref a1)])) rfl rfl (hb hby own_dini_28)
  have Fw26 := Fld.same W26 f25
  have f27 := Exa.wr W26 f21
  have f28 := Fld.other W26 f22 (Or.inr (slot_ne (Or.inr (own_h hw 29 rfl)) (Or.inr (own_h hw 37 rfl)) (by decide) (t := (.object "java/lang/String")) (t' := .long) (by decide) (by decide)))
  have f29 := Fld.other W26 f23 (Or.inr (slot_ne (Or.inr (own_h hw 31 rfl)) (Or.inr (own_h hw 37 rfl)) (by decide) (t := .int) (t' := .long) (by decide) (by decide)))
  have f30 := Fld.other W26 f24 (Or.inr (slot_ne (Or.inr (own_h hw 33 rfl)) (Or.inr (own_h hw 37 rfl)) (by decide) (t := .int) (t' := .long) (by decide) (by decide)))
  have f31 := Fld.other W26 Fw20 (Or.inr (slot_ne (Or.inr (own_h hw 35 rfl)) (Or.inr (own_h hw 37 rfl)) (by decide) (t := .int) (t' := .long) (by decide) (by decide)))
  have K26 : Keep h0 h26 [a1] := K20.wr W26 (Or.inl (List.mem_of_getElem? (i := 0) rfl))
  have Z26 := Nat.le_trans Z20 (Nat.le_of_eq W26.size.symm)
  have N26 := Fr.snoc X26 N20 g_a1
  refine own_s T26 (mkF m 31 #[rv a1, rv a2, iv p3, iv p4, iv p5, .val (.long p6), v_] []) st26 ?_
  exact own_finV X26 hx hret (hb hby own_dini_31) (own_end (Qv := (own_Qini Z a1 a2 p3 p4 p5 p6 h0 n0)) X26 (fun _ => rfl) hlk (by decide) (by decide) e26 ⟨rfl, N26, K26, f27, f30, f31, Fw26⟩)
theorem own_pd1 : parseMethodDescriptor "(JJ)J" = some ⟨[.long, .long], some .long⟩ := by decide +kernel
abbrev own_y4 : MethodName := ⟨"com/example/tidewire/tidewire/rpc/ProviderAddress", "weightAt", "(J)I"⟩
theorem own_dwat_0 : decode prog_29_method_6_code 0 = .ok (.lconst 0, 1) := by decide +kernel
theorem own_dwat_1 : decode prog_29_method_6_code 1 = .ok (.lload_n 1, 1) := by decide +kernel
theorem own_dwat_2 : decode prog_29_method_6_code 2 = .ok (.aload_n 0, 1) := by decide +kernel
theorem own_dwat_3 : decode prog_29_method_6_code 3 = .ok (.getfield 23, 3) := by decide +kernel
theorem own_dwat_6 : decode prog_29_method_6_code 6 = .ok (.lsub, 1) := by decide +kernel
theorem own_dwat_7 : decode prog_29_method_6_code 7 = .ok (.invokestatic 146, 3) := by decide +kernel
theorem own_dwat_10 : decode prog_29_method_6_code 10 = .ok (.lstore_n 3, 1) := by decide +kernel
theorem own_dwat_11 : decode prog_29_method_6_code 11 = .ok (.lload_n 3, 1) := by decide +kernel
theorem own_dwat_12 : decode prog_29_method_6_code 12 = .ok (.aload_n 0, 1) := by decide +kernel
theorem own_dwat_13 : decode prog_29_method_6_code 13 = .ok (.getfield 20, 3) := by decide +kernel
theorem own_dwat_16 : decode prog_29_method_6_code 16 = .ok (.i2l, 1) := by decide +kernel
theorem own_dwat_17 : decode prog_29_method_6_code 17 = .ok (.lcmp, 1) := by decide +kernel
theorem own_dwat_18 : decode prog_29_method_6_code 18 = .ok (.ifCond .lt 8, 3) := by decide +kernel
theorem own_dwat_21 : decode prog_29_method_6_code 21 = .ok (.aload_n 0, 1) := by decide +kernel
theorem own_dwat_22 : decode prog_29_method_6_code 22 = .ok (.getfield 17, 3) := by decide +kernel
theorem own_dwat_25 : decode prog_29_method_6_code 25 = .ok (.ireturn, 1) := by decide +kernel
theorem own_dwat_26 : decode prog_29_method_6_code 26 = .ok (.lconst 1, 1) := by decide +kernel
theorem own_dwat_27 : decode prog_29_method_6_code 27 = .ok (.lload_n 3, 1) := by decide +kernel
theorem own_dwat_28 : decode prog_29_method_6_code 28 = .ok (.aload_n 0, 1) := by decide +kernel
theorem own_dwat_29 : decode prog_29_method_6_code 29 = .ok (.getfield 17, 3) := by decide +kernel
theorem own_dwat_32 : decode prog_29_method_6_code 32 = .ok (.i2l, 1) := by decide +kernel
theorem own_dwat_33 : decode prog_29_method_6_code 33 = .ok (.lmul, 1) := by decide +kernel
theorem own_dwat_34 : decode prog_29_method_6_code 34 = .ok (.aload_n 0, 1) := by decide +kernel
theorem own_dwat_35 : decode prog_29_method_6_code 35 = .ok (.getfield 20, 3) := by decide +kernel
theorem own_dwat_38 : decode prog_29_method_6_code 38 = .ok (.i2l, 1) := by decide +kernel
theorem own_dwat_39 : decode prog_29_method_6_code 39 = .ok (.ldiv, 1) := by decide +kernel
theorem own_dwat_40 : decode prog_29_method_6_code 40 = .ok (.invokestatic 146, 3) := by decide +kernel
theorem own_dwat_43 : decode prog_29_method_6_code 43 = .ok (.l2i, 1) := by decide +kernel
theorem own_dwat_44 : decode prog_29_method_6_code 44 = .ok (.ireturn, 1) := by decide +kernel
theorem own_efwat (m : MethodId) (x0 : Addr) (x1 : Int64) : entryFrame m #[(.ref x0), (.long x1)] 5 = mkF m 0 #[rv x0, .val (.long x1), v_, u_, u_] [] := by first | (simp [entryFrame, mkF, argsToLocals, Value.category]; done) | rfl
def own_Qwat (Z : State) (a1 : Addr) (q2 : Int64) (w : Int32) (mm : Int32) (sm : Int64) (h0 : Heap) (n0 : Nat) : Option Value → Heap → List Loc → Prop := fun v h L => v = some (.int (own_wat w mm sm q2)) ∧ Fr n0 L ∧ h = h0
def own_Rwat : Room := { frames := 1, cells := 0, slots := 0, locals := 15 }
set_option maxRecDepth 65536 in
set_option maxHeartbeats 40000000 in
theorem own_rmwat (l : Launch) (Z : State) (a0 : Array Value) (hw : ∀ d ∈ tables_1, d.before a0 Z = true) (ws : List Jvm.Cond) (a1 : Addr) (q2 : Int64) (w : Int32) (mm : Int32) (sm : Int64) (h0 : Heap) (n0 : Nat) (Z0 : n0 ≤ h0.size) (F1 : Fld Z h0 a1 "com/example/tidewire/tidewire/rpc/ProviderAddress" "weight" "I" (.int w)) (F2 : Fld Z h0 a1 "com/example/tidewire/tidewire/rpc/ProviderAddress" "warmupMillis" "I" (.int mm)) (F3 : Fld Z h0 a1 "com/example/tidewire/tidewire/rpc/ProviderAddress" "startMillis" "J" (.long sm)) :
    own_Met l Z own_y4 prog_29_method_6_code 5 (some .int) ws own_Rwat h0 #[(.ref a1), (.long q2)] (own_Qwat Z a1 q2 w mm sm h0 n0) own_Rwat.cells own_Rwat.slots := by
  refine own_start (plainFor_of_name own_pn1) ?_
  intro p e s m below meth c s₁ X0 hx hZ hby hml hret hlk hown hnm e0
  have hown : s.vm.findClass "com/example/tidewire/tidewire/rpc/ProviderAddress" = some m.cls := hown
  have hml : c.maxLocals = 5 := hml
  have N0 := Fr.nil n0
  refine own_cast (own_efwat m a1 q2) ?_
  refine own_s s₁ (mkF m 3 #[rv a1, .val (.long q2), v_, u_, u_] [(.ref a1), (.long q2), (.long 0)]) (fun _ k => XS.lconst X0.here hx rfl (hb hby own_dwat_0) (XS.lloadN X0.here hx rfl (hb hby own_dwat_1) rfl  (XS.aloadN X0.here hx rfl (hb hby own_dwat_2) rfl rfl k))) ?_
  obtain ⟨T1, X1, e1, st1⟩ := getF X0 hx hZ hown (host := "") (Or.inl (own_h hw 36 rfl)) Via.refl e0 F3 (g := (mkF m 3 #[rv a1, .val (.long q2), v_, u_, u_] [(.ref a1), (.long q2), (.long 0)])) rfl rfl (hb hby own_dwat_3)
  refine own_s T1 (mkF m 6 #[rv a1, .val (.long q2), v_, u_, u_] [(.long sm), (.long q2), (.long 0)]) st1 ?_
  refine own_s T1 (mkF m 7 #[rv a1, .val (.long q2), v_, u_, u_] [(.long (q2 - sm)), (.long 0)]) (fun _ k => XS.lsub X1.here hx rfl (hb hby own_dwat_6) rfl k) ?_
  obtain ⟨v2, T2, L2, X2, hQ2, st2⟩ := own_callS X1 hx hZ (y := own_y1) (W := 0) hown (own_h hw 43 rfl) (own_h hw 44 rfl) (own_h hw 3 rfl) (own_h hw 45 rfl) (by decide) (own_rmml l Z a0 hw [] (0 : Int64) (q2 - sm) h0 n0 Z0) (by decide) (by decide) (g := (mkF m 7 #[rv a1, .val (.long q2), v_, u_, u_] [(.long (q2 - sm)), (.long 0)])) rfl (by rw [hml]; rfl) (argsL := [(.long 0), (.long (q2 - sm))]) (rest := []) rfl (lenOf own_pd1 rfl) rfl (by show 2 * 0 + _ ≤ _; exact Nat.le_of_eq rfl) (hb hby own_dwat_7) e1 (by decide) (by decide)
  obtain ⟨rfl, Nq2, e2⟩ := hQ2
  have N2 := Fr.app N0 Nq2
  refine own_s T2 (mkF m 10 #[rv a1, .val (.long q2), v_, u_, u_] [(.long (own_mxL (0 : Int64) (q2 - sm)))]) st2 ?_
  refine own_s T2 (mkF m 13 #[rv a1, .val (.long q2), v_, .val (.long (own_mxL (0 : Int64) (q2 - sm))), v_] [(.ref a1), (.long (own_mxL (0 : Int64) (q2 - sm)))]) (fun _ k => XS.lstoreN X2.here hx rfl (hb hby own_dwat_10) rfl (l' := #[rv a1, .val (.long q2), v_, .val (.long (own_mxL (0 : Int64) (q2 - sm))), v_]) rfl (XS.lloadN X2.here hx rfl (hb hby own_dwat_11) rfl  (XS.aloadN X2.here hx rfl (hb hby own_dwat_12) rfl rfl k))) ?_
  obtain ⟨T3, X3, e3, st3⟩ := getF X2 hx hZ hown (host := "") (Or.inl (own_h hw 34 rfl)) Via.refl e2 F2 (g := (mkF m 13 #[rv a1, .val (.long q2), v_, .val (.long (own_mxL (0 : Int64) (q2 - sm))), v_] [(.ref a1), (.long (own_mxL (0 : Int64) (q2 - sm)))])) rfl rfl (hb hby own_dwat_13)
  refine own_s T3 (mkF m 16 #[rv a1, .val (.long q2), v_, .val (.long (own_mxL (0 : Int64) (q2 - sm))), v_] [(.int mm), (.long (own_mxL (0 : Int64) (q2 - sm)))]) st3 ?_
  refine own_s T3 (mkF m 18 #[rv a1, .val (.long q2), v_, .val (.long (own_mxL (0 : Int64) (q2 - sm))), v_] [(.int (lcmpW (own_mxL (0 : Int64) (q2 - sm)) (mm.toInt64)))]) (fun _ k => XS.i2l X3.here hx rfl (hb hby own_dwat_16) rfl (XS.lcmp X3.here hx rfl (hb hby own_dwat_17) rfl k)) ?_
  by_cases c18 : (own_mxL (0 : Int64) (q2 - sm)) < (mm.toInt64)
  · refine own_s T3 (mkF m 29 #[rv a1, .val (.long q2), v_, .val (.long (own_mxL (0 : Int64) (q2 - sm))), v_] [(.ref a1), (.long (own_mxL (0 : Int64) (q2 - sm))), (.long 1)]) (fun _ k => XS.ifYes X3.here hx rfl (pc0 := 18) (pc' := 26) rfl (hb hby own_dwat_18) rfl ((if0 _ _).trans (tlt (own_lclt c18)).1) (by decide) (by decide) (XS.lconst X3.here hx rfl (hb hby own_dwat_26) (XS.lloadN X3.here hx rfl (hb hby own_dwat_27) rfl  (XS.aloadN X3.here hx rfl (hb hby own_dwat_28) rfl rfl k)))) ?_
    obtain ⟨T4, X4, e4, st4⟩ := getF X3 hx hZ hown (host := "") (Or.inl (own_h hw 32 rfl)) Via.refl e3 F1 (g := (mkF m 29 #[rv a1, .val (.long q2), v_, .val (.long (own_mxL (0 : Int64) (q2 - sm))), v_] [(.ref a1), (.long (own_mxL (0 : Int64) (q2 - sm))), (.long 1)])) rfl rfl (hb hby own_dwat_29)
    refine own_s T4 (mkF m 32 #[rv a1, .val (.long q2), v_, .val (.long (own_mxL (0 : Int64) (q2 - sm))), v_] [(.int w), (.long (own_mxL (0 : Int64) (q2 - sm))), (.long 1)]) st4 ?_
    refine own_s T4 (mkF m 35 #[rv a1, .val (.long q2), v_, .val (.long (own_mxL (0 : Int64) (q2 - sm))), v_] [(.ref a1), (.long ((own_mxL (0 : Int64) (q2 - sm)) * (w.toInt64))), (.long 1)]) (fun _ k => XS.i2l X4.here hx rfl (hb hby own_dwat_32) rfl (XS.lmul X4.here hx rfl (hb hby own_dwat_33) rfl (XS.aloadN X4.here hx rfl (hb hby own_dwat_34) rfl rfl k))) ?_
    obtain ⟨T5, X5, e5, st5⟩ := getF X4 hx hZ hown (host := "") (Or.inl (own_h hw 34 rfl)) Via.refl e4 F2 (g := (mkF m 35 #[rv a1, .val (.long q2), v_, .val (.long (own_mxL (0 : Int64) (q2 - sm))), v_] [(.ref a1), (.long ((own_mxL (0 : Int64) (q2 - sm)) * (w.toInt64))), (.long 1)])) rfl rfl (hb hby own_dwat_35)
    refine own_s T5 (mkF m 38 #[rv a1, .val (.long q2), v_, .val (.long (own_mxL (0 : Int64) (q2 - sm))), v_] [(.int mm), (.long ((own_mxL (0 : Int64) (q2 - sm)) * (w.toInt64))), (.long 1)]) st5 ?_
    refine own_s T5 (mkF m 40 #[rv a1, .val (.long q2), v_, .val (.long (own_mxL (0 : Int64) (q2 - sm))), v_] [(.long (((own_mxL (0 : Int64) (q2 - sm)) * (w.toInt64)) / (mm.toInt64))), (.long 1)]) (fun _ k => XS.i2l X5.here hx rfl (hb hby own_dwat_38) rfl (XS.ldiv X5.here hx rfl (hb hby own_dwat_39) rfl (own_mnz c18) k)) ?_
    obtain ⟨v6, T6, L6, X6, hQ6, st6⟩ := own_callS X5 hx hZ (y := own_y1) (W := 0) hown (own_h hw 43 rfl) (own_h hw 44 rfl) (own_h hw 3 rfl) (own_h hw 45 rfl) (by decide) (own_rmml l Z a0 hw [] (1 : Int64) (((own_mxL (0 : Int64) (q2 - sm)) * (w.toInt64)) / (mm.toInt64)) h0 n0 Z0) (by decide) (by decide) (g := (mkF m 40 #[rv a1, .val (.long q2), v_, .val (.long (own_mxL (0 : Int64) (q2 - sm))), v_] [(.long (((own_mxL (0 : Int64) (q2 - sm)) * (w.toInt64)) / (mm.toInt64))), (.long 1)])) rfl (by rw [hml]; rfl) (argsL := [(.long 1), (.long (((own_mxL (0 : Int64) (q2 - sm)) * (w.toInt64)) / (mm.toInt64)))]) (rest := []) rfl (lenOf own_pd1 rfl) rfl (by show 2 * 0 + _ ≤ _; exact Nat.le_of_eq rfl) (hb hby own_dwat_40) e5 (by decide) (by decide)
    obtain ⟨rfl, Nq6, e6⟩ := hQ6
    have N6 := Fr.app N2 Nq6
    refine own_s T6 (mkF m 43 #[rv a1, .val (.long q2), v_, .val (.long (own_mxL (0 : Int64) (q2 - sm))), v_] [(.long (own_mxL (1 : Int64) (((own_mxL (0 : Int64) (q2 - sm)) * (w.toInt64)) / (mm.toInt64))))]) st6 ?_
    refine own_s T6 (mkF m 44 #[rv a1, .val (.long q2), v_, .val (.long (own_mxL (0 : Int64) (q2 - sm))), v_] [(.int ((own_mxL (1 : Int64) (((own_mxL (0 : Int64) (q2 - sm)) * (w.toInt64)) / (mm.toInt64))).toInt32))]) (fun _ k => XS.l2i X6.here hx rfl (hb hby own_dwat_43) rfl k) ?_
    exact own_finI X6 hx hret (hb hby own_dwat_44) (own_end (Qv := (own_Qwat Z a1 q2 w mm sm h0 n0)) X6 (own_some hret) hlk (by decide) (by decide) e6 ⟨by simp [own_wat, c18], N6, rfl⟩)
  · refine own_s T3 (mkF m 22 #[rv a1, .val (.long q2), v_, .val (.long (own_mxL (0 : Int64) (q2 - sm))), v_] [(.ref a1)]) (fun _ k => XS.ifNo X3.here hx rfl (hb hby own_dwat_18) rfl ((if0 _ _).trans (flt (own_lcltN c18)).1) (XS.aloadN X3.here hx rfl (hb hby own_dwat_21) rfl rfl k)) ?_
    obtain ⟨T7, X7, e7, st7⟩ := getF X3 hx hZ hown (host := "") (Or.inl (own_h hw 32 rfl)) Via.refl e3 F1 (g := (mkF m 22 #[rv a1, .val (.long q2), v_, .val (.long (own_mxL (0 : Int64) (q2 - sm))), v_] [(.ref a1)])) rfl rfl (hb hby own_dwat_22)
    refine own_s T7 (mkF m 25 #[rv a1, .val (.long q2), v_, .val (.long (own_mxL (0 : Int64) (q2 - sm))), v_] [(.int w)]) st7 ?_
    exact own_finI X7 hx hret (hb hby own_dwat_25) (own_end (Qv := (own_Qwat Z a1 q2 w mm sm h0 n0)) X7 (own_some hret) hlk (by decide) (by decide) e7 ⟨by simp [own_wat, c18], N2, rfl⟩)
theorem own_pd2 : parseMethodDescriptor "(II)I" = some ⟨[.int, .int], some .int⟩ := by decide +kernel
theorem own_pd3 : parseMethodDescriptor "(Ljava/lang/String;IIIJ)V" = some ⟨[(.object "java/lang/String"), .int, .int, .int, .long], none⟩ := by decide +kernel
theorem own_pd4 : parseMethodDescriptor "(J)I" = some ⟨[.long], some .int⟩ := by decide +kernel
theorem own_pn2 : plainName "com/example/tidewire/tidewire/rpc/ProviderAddressWeightAtPinLaw" = true := by first | (simp [plainName, overriddenIn]; done) | decide +kernel
theorem own_ef0 (m : MethodId) (x0 : Int32) (x1 : Int32) (x2 : Int64) (x3 : Int64) (x4 : Int32) : entryFrame m #[(.int x0), (.int x1), (.long x2), (.long x3), (.int x4)] maxLocals = mkF m 0 #[iv x0, iv x1, .val (.long x2), v_, .val (.long x3), v_, iv x4, u_, u_, u_, u_, u_, u_, u_, u_, u_, u_, u_, u_, u_, u_, u_, u_, u_, u_, u_, u_] [] := by first | (simp [entryFrame, mkF, argsToLocals, Value.category, maxLocals]; done) | rfl
def own_Q0 (Z : State) (p1 : Int32) (p2 : Int32) (p3 : Int64) (p4 : Int64) (p5 : Int32) (h0 : Heap) (n0 : Nat) : Option Value → Heap → Vm → List Loc → Prop := fun v h vm L => v = some (.int 1) ∧ Fr n0 L
set_option maxRecDepth 65536 in
set_option maxHeartbeats 40000000 in
theorem own_rm0 (l : Launch) (Z : State) (a0 : Array Value) (hw : ∀ d ∈ tables_1, d.before a0 Z = true) (ws : List Jvm.Cond) (p1 : Int32) (p2 : Int32) (p3 : Int64) (p4 : Int64) (p5 : Int32) (h0 : Heap) (n0 : Nat) (Z0 : n0 ≤ h0.size) :
    own_MetW l Z x code maxLocals ret ws room_1 h0 (fun _ => True) #[(.int p1), (.int p2), (.long p3), (.long p4), (.int p5)] (own_Q0 Z p1 p2 p3 p4 p5 h0 n0) 16 1152 := by
  refine own_startW (plainFor_of_name own_pn2) ?_
  intro p e s m below meth c s₁ X0 hx hZ hby hml hret hlk hown hnm e0 hS hs0 hJ
  have hk0 : 0 ≤ h0.size := Nat.zero_le _
  have hown : s.vm.findClass "com/example/tidewire/tidewire/rpc/ProviderAddressWeightAtPinLaw" = some m.cls := hown
  have hml : c.maxLocals = 27 := hml
  have N0 := Fr.nil n0
  refine own_cast (own_ef0 m p1 p2 p3 p4 p5) ?_
  refine own_s s₁ (mkF m 2 #[iv p1, iv p2, .val (.long p3), v_, .val (.long p4), v_, iv p5, u_, u_, u_, u_, u_, u_, u_, u_, u_, u_, u_, u_, u_, u_, u_, u_, u_, u_, u_, u_] [(.int p1), (.int 1)]) (fun _ k => XS.iconst X0.here hx rfl (hb hby at_0) (XS.iloadN X0.here hx rfl (hb hby at_1) rfl  k)) ?_
  refine own_s s₁ (mkF m 4 #[iv p1, iv p2, .val (.long p3), v_, .val (.long p4), v_, iv p5, u_, u_, u_, u_, u_, u_, u_, u_, u_, u_, u_, u_, u_, u_, u_, u_, u_, u_, u_, u_] [(.int 2147483647), (.int p1), (.int 1)]) (X0.ldcInt hx hown (mvT hZ (own_h hw 0 rfl)) (g := (mkF m 2 #[iv p1, iv p2, .val (.long p3), v_, .val (.long p4), v_, iv p5, u_, u_, u_, u_, u_, u_, u_, u_, u_, u_, u_, u_, u_, u_, u_, u_, u_, u_, u_, u_] [(.int p1), (.int 1)])) rfl (hb hby at_2)) ?_
  refine own_s s₁ (mkF m 5 #[iv p1, iv p2, .val (.long p3), v_, .val (.long p4), v_, iv p5, u_, u_, u_, u_, u_, u_, u_, u_, u_, u_, u_, u_, u_, u_, u_, u_, u_, u_, u_, u_] [(.int (p1 &&& (2147483647 : Int32))), (.int 1)]) (fun _ k => XS.iand X0.here hx rfl (hb hby at_4) rfl k) ?_
  obtain ⟨v1, T1, L1, X1, hQ1, st1⟩ := own_callS X0 hx hZ (y := own_y0) (W := 0) hown (own_h hw 1 rfl) (own_h hw 2 rfl) (own_h hw 3 rfl) (own_h hw 4 rfl) (by decide) (own_rmmi l Z a0 hw [] (1 : Int32) (p1 &&& (2147483647 : Int32)) h0 n0 Z0) (by decide) (by decide) (g := (mkF m 5 #[iv p1, iv p2, .val (.long p3), v_, .val (.long p4), v_, iv p5, u_, u_, u_, u_, u_, u_, u_, u_, u_, u_, u_, u_, u_, u_, u_, u_, u_, u_, u_, u_] [(.int (p1 &&& (2147483647 : Int32))), (.int 1)])) rfl (by rw [hml]; rfl) (argsL := [(.int 1), (.int (p1 &&& (2147483647 : Int32)))]) (rest := []) rfl (lenOf own_pd2 rfl) rfl (by show 2 * 0 + _ ≤ _; exact Nat.le_of_eq rfl) (hb hby at_5) e0 (by decide) (by decide)
  obtain ⟨rfl, Nq1, e1⟩ := hQ1
  have N1 := Fr.app N0 Nq1
  refine own_s T1 (mkF m 8 #[iv p1, iv p2, .val (.long p3), v_, .val (.long p4), v_, iv p5, u_, u_, u_, u_, u_, u_, u_, u_, u_, u_, u_, u_, u_, u_, u_, u_, u_, u_, u_, u_] [(.int (own_mx (1 : Int32) (p1 &&& (2147483647 : Int32))))]) st1 ?_
  refine own_s T1 (mkF m 11 #[iv p1, iv p2, .val (.long p3), v_, .val (.long p4), v_, iv p5, iv (own_mx (1 : Int32) (p1 &&& (2147483647 : Int32))), u_, u_, u_, u_, u_, u_, u_, u_, u_, u_, u_, u_, u_, u_, u_, u_, u_, u_, u_] [(.int p2)]) (fun _ k => XS.istore X1.here hx rfl (hb hby at_8) rfl (l' := #[iv p1, iv p2, .val (.long p3), v_, .val (.long p4), v_, iv p5, iv (own_mx (1 : Int32) (p1 &&& (2147483647 : Int32))), u_, u_, u_, u_, u_, u_, u_, u_, u_, u_, u_, u_, u_, u_, u_, u_, u_, u_, u_]) rfl (XS.iloadN X1.here hx rfl (hb hby at_10) rfl  k)) ?_
  refine own_s T1 (mkF m 13 #[iv p1, iv p2, .val (.long p3), v_, .val (.long p4), v_, iv p5, iv (own_mx (1 : Int32) (p1 &&& (2147483647 : Int32))), u_, u_, u_, u_, u_, u_, u_, u_, u_, u_, u_, u_, u_, u_, u_, u_, u_, u_, u_] [(.int 2147483647), (.int p2)]) (X1.ldcInt hx hown (mvT hZ (own_h hw 0 rfl)) (g := (mkF m 11 #[iv p1, iv p2, .val (.long p3), v_, .val (.long p4), v_, iv p5, iv (own_mx (1 : Int32) (p1 &&& (2147483647 : Int32))), u_, u_, u_, u_, u_, u_, u_, u_, u_, u_, u_, u_, u_, u_, u_, u_, u_, u_, u_] [(.int p2)])) rfl (hb hby at_11)) ?_
  refine own_s T1 (mkF m 17 #[iv p1, iv p2, .val (.long p3), v_, .val (.long p4), v_, iv p5, iv (own_mx (1 : Int32) (p1 &&& (2147483647 : Int32))), iv (p2 &&& (2147483647 : Int32)), u_, u_, u_, u_, u_, u_, u_, u_, u_, u_, u_, u_, u_, u_, u_, u_, u_, u_] [(.long p3)]) (fun _ k => XS.iand X1.here hx rfl (hb hby at_13) rfl (XS.istore X1.here hx rfl (hb hby at_14) rfl (l' := #[iv p1, iv p2, .val (.long p3), v_, .val (.long p4), v_, iv p5, iv (own_mx (1 : Int32) (p1 &&& (2147483647 : Int32))), iv (p2 &&& (2147483647 : Int32)), u_, u_, u_, u_, u_, u_, u_, u_, u_, u_, u_, u_, u_, u_, u_, u_, u_, u_]) rfl (XS.lloadN X1.here hx rfl (hb hby at_16) rfl  k))) ?_
  refine own_s T1 (mkF m 20 #[iv p1, iv p2, .val (.long p3), v_, .val (.long p4), v_, iv p5, iv (own_mx (1 : Int32) (p1 &&& (2147483647 : Int32))), iv (p2 &&& (2147483647 : Int32)), u_, u_, u_, u_, u_, u_, u_, u_, u_, u_, u_, u_, u_, u_, u_, u_, u_, u_] [(.long 9223372036854775807), (.long p3)]) (X1.ldc2Long hx hown (mvT hZ (own_h hw 5 rfl)) (g := (mkF m 17 #[iv p1, iv p2, .val (.long p3), v_, .val (.long p4), v_, iv p5, iv (own_mx (1 : Int32) (p1 &&& (2147483647 : Int32))), iv (p2 &&& (2147483647 : Int32)), u_, u_, u_, u_, u_, u_, u_, u_, u_, u_, u_, u_, u_, u_, u_, u_, u_, u_] [(.long p3)])) rfl (hb hby at_17)) ?_
  refine own_s T1 (mkF m 27 #[iv p1, iv p2, .val (.long p3), v_, .val (.long p4), v_, iv p5, iv (own_mx (1 : Int32) (p1 &&& (2147483647 : Int32))), iv (p2 &&& (2147483647 : Int32)), .val (.long (p3 &&& (9223372036854775807 : Int64))), v_, u_, u_, u_, u_, u_, u_, u_, u_, u_, u_, u_, u_, u_, u_, u_, u_] [(.int ((p5.toUInt32 >>> ((1 : Int32) &&& 31).toUInt32).toInt32))]) (fun _ k => XS.land X1.here hx rfl (hb hby at_20) rfl (XS.lstore X1.here hx rfl (hb hby at_21) rfl (l' := #[iv p1, iv p2, .val (.long p3), v_, .val (.long p4), v_, iv p5, iv (own_mx (1 : Int32) (p1 &&& (2147483647 : Int32))), iv (p2 &&& (2147483647 : Int32)), .val (.long (p3 &&& (9223372036854775807 : Int64))), v_, u_, u_, u_, u_, u_, u_, u_, u_, u_, u_, u_, u_, u_, u_, u_, u_]) rfl (XS.iload X1.here hx rfl (hb hby at_23) rfl  (XS.iconst X1.here hx rfl (hb hby at_25) (XS.iushr X1.here hx rfl (hb hby at_26) rfl k))))) ?_
  refine own_s T1 (mkF m 33 #[iv p1, iv p2, .val (.long p3), v_, .val (.long p4), v_, iv p5, iv (own_mx (1 : Int32) (p1 &&& (2147483647 : Int32))), iv (p2 &&& (2147483647 : Int32)), .val (.long (p3 &&& (9223372036854775807 : Int64))), v_, iv ((p5.toUInt32 >>> ((1 : Int32) &&& 31).toUInt32).toInt32), u_, u_, u_, u_, u_, u_, u_, u_, u_, u_, u_, u_, u_, u_, u_] [(.int (p5 &&& (1 : Int32)))]) (fun _ k => XS.istore X1.here hx rfl (hb hby at_27) rfl (l' := #[iv p1, iv p2, .val (.long p3), v_, .val (.long p4), v_, iv p5, iv (own_mx (1 : Int32) (p1 &&& (2147483647 : Int32))), iv (p2 &&& (2147483647 : Int32)), .val (.long (p3 &&& (9223372036854775807 : Int64))), v_, iv ((p5.toUInt32 >>> ((1 : Int32) &&& 31).toUInt32).toInt32), u_, u_, u_, u_, u_, u_, u_, u_, u_, u_, u_, u_, u_, u_, u_]) rfl (XS.iload X1.here hx rfl (hb hby at_29) rfl  (XS.iconst X1.here hx rfl (hb hby at_31) (XS.iand X1.here hx rfl (hb hby at_32) rfl k)))) ?_
  have J80 : ∀ (j12 : Int32) (j13 : Int64), own_Go p e below (own_PostW (own_Q0 Z p1 p2 p3 p4 p5 h0 n0) 16 1152 s) T1 (mkF m 80 #[iv p1, iv p2, .val (.long p3), v_, .val (.long p4), v_, iv p5, iv (own_mx (1 : Int32) (p1 &&& (2147483647 : Int32))), iv (p2 &&& (2147483647 : Int32)), .val (.long (p3 &&& (9223372036854775807 : Int64))), v_, iv ((p5.toUInt32 >>> ((1 : Int32) &&& 31).toUInt32).toInt32), iv j12, .val (.long j13), v_, u_, u_, u_, u_, u_, u_, u_, u_, u_, u_, u_, u_] []) := by
    intro j12 j13
    obtain ⟨T2, h2, X2, e2, E2, A2, D2, -, st2⟩ := newO X1 hx hZ hown (own_h hw 6 rfl) (own_h hw 7 rfl) (own_h hw 8 rfl) e1 (g := (mkF m 80 #[iv p1, iv p2, .val (.long p3), v_, .val (.long p4), v_, iv p5, iv (own_mx (1 : Int32) (p1 &&& (2147483647 : Int32))), iv (p2 &&& (2147483647 : Int32)), .val (.long (p3 &&& (9223372036854775807 : Int64))), v_, iv ((p5.toUInt32 >>> ((1 : Int32) &&& 31).toUInt32).toInt32), iv j12, .val (.long j13), v_, u_, u_, u_, u_, u_, u_, u_, u_, u_, u_, u_, u_] [])) rfl (hb hby at_80) (by decide) (by decide)
    obtain ⟨b2, g2⟩ : ∃ z, z = h0.size := ⟨_, rfl⟩
    have g_b2 : n0 ≤ b2 := Nat.le_trans Z0 (Nat.le_of_eq g2.symm)
    have sz_b2 : h0.size ≤ b2 := Nat.le_trans (Keep.refl h0 []).1 (Nat.le_of_eq g2.symm)
    rw [← g2] at A2 D2 st2
    have K2 : Keep h0 h2 [] := (Keep.refl h0 []).ext E2
    have Z2 := Nat.le_trans Z0 E2.1
    have hk2 := Nat.le_trans hk0 E2.1
    have f3 : Fld Z h2 b2 "com/example/tidewire/tidewire/rpc/ProviderAddress" "host" "Ljava/lang/String;" .null := D2 (Or.inr (own_h hw 29 rfl)) (ty := (.object "java/lang/String")) (by decide)
    have f4 : Fld Z h2 b2 "com/example/tidewire/tidewire/rpc/ProviderAddress" "port" "I" (.int 0) := D2 (Or.inr (own_h hw 31 rfl)) (ty := .int) (by decide)
    have f5 : Fld Z h2 b2 "com/example/tidewire/tidewire/rpc/ProviderAddress" "weight" "I" (.int 0) := D2 (Or.inr (own_h hw 33 rfl)) (ty := .int) (by decide)
    have f6 : Fld Z h2 b2 "com/example/tidewire/tidewire/rpc/ProviderAddress" "warmupMillis" "I" (.int 0) := D2 (Or.inr (own_h hw 35 rfl)) (ty := .int) (by decide)
    have f7 : Fld Z h2 b2 "com/example/tidewire/tidewire/rpc/ProviderAddress" "startMillis" "J" (.long 0) := D2 (Or.inr (own_h hw 37 rfl)) (ty := .long) (by decide)
    refine own_s T2 (mkF m 83 #[iv p1, iv p2, .val (.long p3), v_, .val (.long p4), v_, iv p5, iv (own_mx (1 : Int32) (p1 &&& (2147483647 : Int32))), iv (p2 &&& (2147483647 : Int32)), .val (.long (p3 &&& (9223372036854775807 : Int64))), v_, iv ((p5.toUInt32 >>> ((1 : Int32) &&& 31).toUInt32).toInt32), iv j12, .val (.long j13), v_, u_, u_, u_, u_, u_, u_, u_, u_, u_, u_, u_, u_] [(.ref b2)]) st2 ?_
    refine own_s T2 (mkF m 84 #[iv p1, iv p2, .val (.long p3), v_, .val (.long p4), v_, iv p5, iv (own_mx (1 : Int32) (p1 &&& (2147483647 : Int32))), iv (p2 &&& (2147483647 : Int32)), .val (.long (p3 &&& (9223372036854775807 : Int64))), v_, iv ((p5.toUInt32 >>> ((1 : Int32) &&& 31).toUInt32).toInt32), iv j12, .val (.long j13), v_, u_, u_, u_, u_, u_, u_, u_, u_, u_, u_, u_, u_] [(.ref b2), (.ref b2)]) (fun _ k => XS.dup X2.here hx rfl (hb hby at_83) rfl rfl k) ?_
    obtain ⟨sl8, T8, h8, kk8, X8, e8, E8, hS, hk8, hZ, hown, st8⟩ := ldcS (s := s) X2 hx hZ hown (own_h hw 9 rfl) (own_wS hw) e2 hS hk2 (g := (mkF m 84 #[iv p1, iv p2, .val (.long p3), v_, .val (.long p4), v_, iv p5, iv (own_mx (1 : Int32) (p1 &&& (2147483647 : Int32))), iv (p2 &&& (2147483647 : Int32)), .val (.long (p3 &&& (9223372036854775807 : Int64))), v_, iv ((p5.toUInt32 >>> ((1 : Int32) &&& 31).toUInt32).toInt32), iv j12, .val (.long j13), v_, u_, u_, u_, u_, u_, u_, u_, u_, u_, u_, u_, u_] [(.ref b2), (.ref b2)])) rfl (hb hby at_84) (n := 4) (by decide) (by decide) (by decide) (by decide)
    have f9 := Exa.ext E8 A2
    have f10 := Fld.ext E8 f3
    have f11 := Fld.ext E8 f4
    have f12 := Fld.ext E8 f5
    have f13 := Fld.ext E8 f6
    have f14 := Fld.ext E8 f7
    have K8 : Keep h0 h8 [] := K2.ext E8
    have Z8 := Nat.le_trans Z2 E8.1
    refine own_s T8 (mkF m 86 #[iv p1, iv p2, .val (.long p3), v_, .val (.long p4), v_, iv p5, iv (own_mx (1 : Int32) (p1 &&& (2147483647 : Int32))), iv (p2 &&& (2147483647 : Int32)), .val (.long (p3 &&& (9223372036854775807 : Int64))), v_, iv ((p5.toUInt32 >>> ((1 : Int32) &&& 31).toUInt32).toInt32), iv j12, .val (.long j13), v_, u_, u_, u_, u_, u_, u_, u_, u_, u_, u_, u_, u_] [(.ref sl8), (.ref b2), (.ref b2)]) st8 ?_
    refine own_s T8 (mkF m 93 #[iv p1, iv p2, .val (.long p3), v_, .val (.long p4), v_, iv p5, iv (own_mx (1 : Int32) (p1 &&& (2147483647 : Int32))), iv (p2 &&& (2147483647 : Int32)), .val (.long (p3 &&& (9223372036854775807 : Int64))), v_, iv ((p5.toUInt32 >>> ((1 : Int32) &&& 31).toUInt32).toInt32), iv j12, .val (.long j13), v_, u_, u_, u_, u_, u_, u_, u_, u_, u_, u_, u_, u_] [(.long (p3 &&& (9223372036854775807 : Int64))), (.int (p2 &&& (2147483647 : Int32))), (.int (own_mx (1 : Int32) (p1 &&& (2147483647 : Int32)))), (.int 1), (.ref sl8), (.ref b2), (.ref b2)]) (fun _ k => XS.iconst X8.here hx rfl (hb hby at_86) (XS.iload X8.here hx rfl (hb hby at_87) rfl  (XS.iload X8.here hx rfl (hb hby at_89) rfl  (XS.lload X8.here hx rfl (hb hby at_91) rfl  k)))) ?_
    obtain ⟨v15, T15, L15, X15, hQ15, st15⟩ := own_callI X8 hx hZ (y := own_y3) (W := 1) (a := b2) rfl hown (own_h hw 17 rfl) (own_h hw 18 rfl) (own_h hw 8 rfl) (own_h hw 19 rfl) (by decide) (own_rmini l Z a0 hw [] b2 sl8 (1 : Int32) (own_mx (1 : Int32) (p1 &&& (2147483647 : Int32))) (p2 &&& (2147483647 : Int32)) (p3 &&& (9223372036854775807 : Int64)) h8 n0 Z8 g_b2 f9 f10 f11 f12 f13 f14) (by decide) (by decide) (g := (mkF m 93 #[iv p1, iv p2, .val (.long p3), v_, .val (.long p4), v_, iv p5, iv (own_mx (1 : Int32) (p1 &&& (2147483647 : Int32))), iv (p2 &&& (2147483647 : Int32)), .val (.long (p3 &&& (9223372036854775807 : Int64))), v_, iv ((p5.toUInt32 >>> ((1 : Int32) &&& 31).toUInt32).toInt32), iv j12, .val (.long j13), v_, u_, u_, u_, u_, u_, u_, u_, u_, u_, u_, u_, u_] [(.long (p3 &&& (9223372036854775807 : Int64))), (.int (p2 &&& (2147483647 : Int32))), (.int (own_mx (1 : Int32) (p1 &&& (2147483647 : Int32)))), (.int 1), (.ref sl8), (.ref b2), (.ref b2)])) rfl (by rw [hml]; rfl) (argsL := [(.ref sl8), (.int 1), (.int (own_mx (1 : Int32) (p1 &&& (2147483647 : Int32)))), (.int (p2 &&& (2147483647 : Int32))), (.long (p3 &&& (9223372036854775807 : Int64)))]) (rest := [(.ref b2)]) rfl (lenOf own_pd3 rfl) rfl (by show 2 * 0 + _ ≤ _; exact Nat.le_of_eq rfl) (hb hby at_93) e8 (by decide) (by decide)
    obtain ⟨rfl, Nq15, Kq15, Eq15, Fa15, Fb15, Fc15⟩ := hQ15
    have N15 := Fr.app N1 Nq15
    have Z15 := Nat.le_trans Z8 Kq15.1
    have hk15 := Nat.le_trans hk8 Kq15.1
    refine own_s T15 (mkF m 96 #[iv p1, iv p2, .val (.long p3), v_, .val (.long p4), v_, iv p5, iv (own_mx (1 : Int32) (p1 &&& (2147483647 : Int32))), iv (p2 &&& (2147483647 : Int32)), .val (.long (p3 &&& (9223372036854775807 : Int64))), v_, iv ((p5.toUInt32 >>> ((1 : Int32) &&& 31).toUInt32).toInt32), iv j12, .val (.long j13), v_, u_, u_, u_, u_, u_, u_, u_, u_, u_, u_, u_, u_] [(.ref b2)]) st15 ?_
    refine own_s T15 (mkF m 102 #[iv p1, iv p2, .val (.long p3), v_, .val (.long p4), v_, iv p5, iv (own_mx (1 : Int32) (p1 &&& (2147483647 : Int32))), iv (p2 &&& (2147483647 : Int32)), .val (.long (p3 &&& (9223372036854775807 : Int64))), v_, iv ((p5.toUInt32 >>> ((1 : Int32) &&& 31).toUInt32).toInt32), iv j12, .val (.long j13), v_, rv b2, u_, u_, u_, u_, u_, u_, u_, u_, u_, u_, u_] [(.long j13), (.ref b2)]) (fun _ k => XS.astore X15.here hx rfl (hb hby at_96) rfl rfl (l' := #[iv p1, iv p2, .val (.long p3), v_, .val (.long p4), v_, iv p5, iv (own_mx (1 : Int32) (p1 &&& (2147483647 : Int32))), iv (p2 &&& (2147483647 : Int32)), .val (.long (p3 &&& (9223372036854775807 : Int64))), v_, iv ((p5.toUInt32 >>> ((1 : Int32) &&& 31).toUInt32).toInt32), iv j12, .val (.long j13), v_, rv b2, u_, u_, u_, u_, u_, u_, u_, u_, u_, u_, u_]) rfl (XS.aload X15.here hx rfl (hb hby at_98) rfl rfl (XS.lload X15.here hx rfl (hb hby at_100) rfl  k))) ?_
    obtain ⟨v16, T16, L16, X16, hQ16, st16⟩ := own_callV X15 hx hZ (y := own_y4) (z := own_y4) (W := 0) (a := b2) hown (own_h hw 38 rfl) (own_h hw 39 rfl) (notFace_of_selects (args := #[]) (mvT hZ (own_h hw 41 rfl))) (own_h hw 41 rfl) (own_h hw 40 rfl) (own_h hw 8 rfl) (own_h hw 42 rfl) (by decide) (own_rmwat l Z a0 hw [] b2 j13 (own_mx (1 : Int32) (p1 &&& (2147483647 : Int32))) (p2 &&& (2147483647 : Int32)) (p3 &&& (9223372036854775807 : Int64)) T15.heap n0 Z15 Fa15 Fb15 Fc15) (by decide) (by decide) Eq15 (g := (mkF m 102 #[iv p1, iv p2, .val (.long p3), v_, .val (.long p4), v_, iv p5, iv (own_mx (1 : Int32) (p1 &&& (2147483647 : Int32))), iv (p2 &&& (2147483647 : Int32)), .val (.long (p3 &&& (9223372036854775807 : Int64))), v_, iv ((p5.toUInt32 >>> ((1 : Int32) &&& 31).toUInt32).toInt32), iv j12, .val (.long j13), v_, rv b2, u_, u_, u_, u_, u_, u_, u_, u_, u_, u_, u_] [(.long j13), (.ref b2)])) rfl (by rw [hml]; rfl) (argsL := [(.long j13)]) (rest := []) rfl (lenOf own_pd4 rfl) rfl (by show 2 * 0 + _ ≤ _; exact Nat.le_of_eq rfl) (hb hby at_102) rfl (by decide) (by decide)
    obtain ⟨rfl, Nq16, e16⟩ := hQ16
    have N16 := Fr.app N15 Nq16
    refine own_s T16 (mkF m 105 #[iv p1, iv p2, .val (.long p3), v_, .val (.long p4), v_, iv p5, iv (own_mx (1 : Int32) (p1 &&& (2147483647 : Int32))), iv (p2 &&& (2147483647 : Int32)), .val (.long (p3 &&& (9223372036854775807 : Int64))), v_, iv ((p5.toUInt32 >>> ((1 : Int32) &&& 31).toUInt32).toInt32), iv j12, .val (.long j13), v_, rv b2, u_, u_, u_, u_, u_, u_, u_, u_, u_, u_, u_] [(.int (own_wat (own_mx (1 : Int32) (p1 &&& (2147483647 : Int32))) (p2 &&& (2147483647 : Int32)) (p3 &&& (9223372036854775807 : Int64)) j13))]) st16 ?_
    refine own_s T16 (mkF m 115 #[iv p1, iv p2, .val (.long p3), v_, .val (.long p4), v_, iv p5, iv (own_mx (1 : Int32) (p1 &&& (2147483647 : Int32))), iv (p2 &&& (2147483647 : Int32)), .val (.long (p3 &&& (9223372036854775807 : Int64))), v_, iv ((p5.toUInt32 >>> ((1 : Int32) &&& 31).toUInt32).toInt32), iv j12, .val (.long j13), v_, rv b2, iv (own_wat (own_mx (1 : Int32) (p1 &&& (2147483647 : Int32))) (p2 &&& (2147483647 : Int32)) (p3 &&& (9223372036854775807 : Int64)) j13), u_, u_, u_, u_, u_, u_, u_, u_, u_, u_] [(.int (own_wat (own_mx (1 : Int32) (p1 &&& (2147483647 : Int32))) (p2 &&& (2147483647 : Int32)) (p3 &&& (9223372036854775807 : Int64)) j13))]) (fun _ k => XS.istore X16.here hx rfl (hb hby at_105) rfl (l' := #[iv p1, iv p2, .val (.long p3), v_, .val (.long p4), v_, iv p5, iv (own_mx (1 : Int32) (p1 &&& (2147483647 : Int32))), iv (p2 &&& (2147483647 : Int32)), .val (.long (p3 &&& (9223372036854775807 : Int64))), v_, iv ((p5.toUInt32 >>> ((1 : Int32) &&& 31).toUInt32).toInt32), iv j12, .val (.long j13), v_, rv b2, iv (own_wat (own_mx (1 : Int32) (p1 &&& (2147483647 : Int32))) (p2 &&& (2147483647 : Int32)) (p3 &&& (9223372036854775807 : Int64)) j13), u_, u_, u_, u_, u_, u_, u_, u_, u_, u_]) rfl (XS.iload X16.here hx rfl (hb hby at_107) rfl  (XS.iconst X16.here hx rfl (hb hby at_109) (XS.icmpNo X16.here hx rfl (hb hby at_110) rfl (flt (own_r1 (own_w1 p1) (own_m0 p2))).1 (XS.iload X16.here hx rfl (hb hby at_113) rfl  k))))) ?_
    refine own_s T16 (mkF m 127 #[iv p1, iv p2, .val (.long p3), v_, .val (.long p4), v_, iv p5, iv (own_mx (1 : Int32) (p1 &&& (2147483647 : Int32))), iv (p2 &&& (2147483647 : Int32)), .val (.long (p3 &&& (9223372036854775807 : Int64))), v_, iv ((p5.toUInt32 >>> ((1 : Int32) &&& 31).toUInt32).toInt32), iv j12, .val (.long j13), v_, rv b2, iv (own_wat (own_mx (1 : Int32) (p1 &&& (2147483647 : Int32))) (p2 &&& (2147483647 : Int32)) (p3 &&& (9223372036854775807 : Int64)) j13), u_, u_, u_, u_, u_, u_, u_, u_, u_, u_] [(.long (p3 &&& (9223372036854775807 : Int64))), (.long j13), (.long 0)]) (fun _ k => XS.iload X16.here hx rfl (hb hby at_115) rfl  (XS.icmpYes X16.here hx rfl (pc0 := 117) (pc' := 122) rfl (hb hby at_117) rfl (flt (own_r2 (own_w1 p1) (own_m0 p2))).2.2.2 (by decide) (by decide) (XS.lconst X16.here hx rfl (hb hby at_122) (XS.lload X16.here hx rfl (hb hby at_123) rfl  (XS.lload X16.here hx rfl (hb hby at_125) rfl  k))))) ?_
    refine own_s T16 (mkF m 128 #[iv p1, iv p2, .val (.long p3), v_, .val (.long p4), v_, iv p5, iv (own_mx (1 : Int32) (p1 &&& (2147483647 : Int32))), iv (p2 &&& (2147483647 : Int32)), .val (.long (p3 &&& (9223372036854775807 : Int64))), v_, iv ((p5.toUInt32 >>> ((1 : Int32) &&& 31).toUInt32).toInt32), iv j12, .val (.long j13), v_, rv b2, iv (own_wat (own_mx (1 : Int32) (p1 &&& (2147483647 : Int32))) (p2 &&& (2147483647 : Int32)) (p3 &&& (9223372036854775807 : Int64)) j13), u_, u_, u_, u_, u_, u_, u_, u_, u_, u_] [(.long (j13 - (p3 &&& (9223372036854775807 : Int64)))), (.long 0)]) (fun _ k => XS.lsub X16.here hx rfl (hb hby at_127) rfl k) ?_
    obtain ⟨v17, T17, L17, X17, hQ17, st17⟩ := own_callS X16 hx hZ (y := own_y1) (W := 0) hown (own_h hw 46 rfl) (own_h hw 44 rfl) (own_h hw 3 rfl) (own_h hw 45 rfl) (by decide) (own_rmml l Z a0 hw [] (0 : Int64) (j13 - (p3 &&& (9223372036854775807 : Int64))) T15.heap n0 Z15) (by decide) (by decide) (g := (mkF m 128 #[iv p1, iv p2, .val (.long p3), v_, .val (.long p4), v_, iv p5, iv (own_mx (1 : Int32) (p1 &&& (2147483647 : Int32))), iv (p2 &&& (2147483647 : Int32)), .val (.long (p3 &&& (9223372036854775807 : Int64))), v_, iv ((p5.toUInt32 >>> ((1 : Int32) &&& 31).toUInt32).toInt32), iv j12, .val (.long j13), v_, rv b2, iv (own_wat (own_mx (1 : Int32) (p1 &&& (2147483647 : Int32))) (p2 &&& (2147483647 : Int32)) (p3 &&& (9223372036854775807 : Int64)) j13), u_, u_, u_, u_, u_, u_, u_, u_, u_, u_] [(.long (j13 - (p3 &&& (9223372036854775807 : Int64)))), (.long 0)])) rfl (by rw [hml]; rfl) (argsL := [(.long 0), (.long (j13 - (p3 &&& (9223372036854775807 : Int64))))]) (rest := []) rfl (lenOf own_pd1 rfl) rfl (by show 2 * 0 + _ ≤ _; exact Nat.le_of_eq rfl) (hb hby at_128) e16 (by decide) (by decide)
    obtain ⟨rfl, Nq17, e17⟩ := hQ17
    have N17 := Fr.app N16 Nq17
    refine own_s T17 (mkF m 131 #[iv p1, iv p2, .val (.long p3), v_, .val (.long p4), v_, iv p5, iv (own_mx (1 : Int32) (p1 &&& (2147483647 : Int32))), iv (p2 &&& (2147483647 : Int32)), .val (.long (p3 &&& (9223372036854775807 : Int64))), v_, iv ((p5.toUInt32 >>> ((1 : Int32) &&& 31).toUInt32).toInt32), iv j12, .val (.long j13), v_, rv b2, iv (own_wat (own_mx (1 : Int32) (p1 &&& (2147483647 : Int32))) (p2 &&& (2147483647 : Int32)) (p3 &&& (9223372036854775807 : Int64)) j13), u_, u_, u_, u_, u_, u_, u_, u_, u_, u_] [(.long (own_mxL (0 : Int64) (j13 - (p3 &&& (9223372036854775807 : Int64)))))]) st17 ?_
    refine own_s T17 (mkF m 139 #[iv p1, iv p2, .val (.long p3), v_, .val (.long p4), v_, iv p5, iv (own_mx (1 : Int32) (p1 &&& (2147483647 : Int32))), iv (p2 &&& (2147483647 : Int32)), .val (.long (p3 &&& (9223372036854775807 : Int64))), v_, iv ((p5.toUInt32 >>> ((1 : Int32) &&& 31).toUInt32).toInt32), iv j12, .val (.long j13), v_, rv b2, iv (own_wat (own_mx (1 : Int32) (p1 &&& (2147483647 : Int32))) (p2 &&& (2147483647 : Int32)) (p3 &&& (9223372036854775807 : Int64)) j13), .val (.long (own_mxL (0 : Int64) (j13 - (p3 &&& (9223372036854775807 : Int64))))), v_, u_, u_, u_, u_, u_, u_, u_, u_] [(.int (lcmpW (own_mxL (0 : Int64) (j13 - (p3 &&& (9223372036854775807 : Int64)))) ((p2 &&& (2147483647 : Int32)).toInt64)))]) (fun _ k => XS.lstore X17.here hx rfl (hb hby at_131) rfl (l' := #[iv p1, iv p2, .val (.long p3), v_, .val (.long p4), v_, iv p5, iv (own_mx (1 : Int32) (p1 &&& (2147483647 : Int32))), iv (p2 &&& (2147483647 : Int32)), .val (.long (p3 &&& (9223372036854775807 : Int64))), v_, iv ((p5.toUInt32 >>> ((1 : Int32) &&& 31).toUInt32).toInt32), iv j12, .val (.long j13), v_, rv b2, iv (own_wat (own_mx (1 : Int32) (p1 &&& (2147483647 : Int32))) (p2 &&& (2147483647 : Int32)) (p3 &&& (9223372036854775807 : Int64)) j13), .val (.long (own_mxL (0 : Int64) (j13 - (p3 &&& (9223372036854775807 : Int64))))), v_, u_, u_, u_, u_, u_, u_, u_, u_]) rfl (XS.lload X17.here hx rfl (hb hby at_133) rfl  (XS.iload X17.here hx rfl (hb hby at_135) rfl  (XS.i2l X17.here hx rfl (hb hby at_137) rfl (XS.lcmp X17.here hx rfl (hb hby at_138) rfl k))))) ?_
    by_cases c139 : (own_mxL (0 : Int64) (j13 - (p3 &&& (9223372036854775807 : Int64)))) < ((p2 &&& (2147483647 : Int32)).toInt64)
    · refine own_s T17 (mkF m 162 #[iv p1, iv p2, .val (.long p3), v_, .val (.long p4), v_, iv p5, iv (own_mx (1 : Int32) (p1 &&& (2147483647 : Int32))), iv (p2 &&& (2147483647 : Int32)), .val (.long (p3 &&& (9223372036854775807 : Int64))), v_, iv ((p5.toUInt32 >>> ((1 : Int32) &&& 31).toUInt32).toInt32), iv j12, .val (.long j13), v_, rv b2, iv (own_wat (own_mx (1 : Int32) (p1 &&& (2147483647 : Int32))) (p2 &&& (2147483647 : Int32)) (p3 &&& (9223372036854775807 : Int64)) j13), .val (.long (own_mxL (0 : Int64) (j13 - (p3 &&& (9223372036854775807 : Int64))))), v_, .val (.long ((own_mx (1 : Int32) (p1 &&& (2147483647 : Int32))).toInt64)), v_, u_, u_, u_, u_, u_, u_] [(.int (p2 &&& (2147483647 : Int32)))]) (fun _ k => XS.ifYes X17.here hx rfl (pc0 := 139) (pc' := 155) rfl (hb hby at_139) rfl ((if0 _ _).trans (tlt (own_lclt c139)).1) (by decide) (by decide) (XS.iload X17.here hx rfl (hb hby at_155) rfl  (XS.i2l X17.here hx rfl (hb hby at_157) rfl (XS.lstore X17.here hx rfl (hb hby at_158) rfl (l' := #[iv p1, iv p2, .val (.long p3), v_, .val (.long p4), v_, iv p5, iv (own_mx (1 : Int32) (p1 &&& (2147483647 : Int32))), iv (p2 &&& (2147483647 : Int32)), .val (.long (p3 &&& (9223372036854775807 : Int64))), v_, iv ((p5.toUInt32 >>> ((1 : Int32) &&& 31).toUInt32).toInt32), iv j12, .val (.long j13), v_, rv b2, iv (own_wat (own_mx (1 : Int32) (p1 &&& (2147483647 : Int32))) (p2 &&& (2147483647 : Int32)) (p3 &&& (9223372036854775807 : Int64)) j13), .val (.long (own_mxL (0 : Int64) (j13 - (p3 &&& (9223372036854775807 : Int64))))), v_, .val (.long ((own_mx (1 : Int32) (p1 &&& (2147483647 : Int32))).toInt64)), v_, u_, u_, u_, u_, u_, u_]) rfl (XS.iload X17.here hx rfl (hb hby at_160) rfl  k))))) ?_
      refine own_s T17 (mkF m 170 #[iv p1, iv p2, .val (.long p3), v_, .val (.long p4), v_, iv p5, iv (own_mx (1 : Int32) (p1 &&& (2147483647 : Int32))), iv (p2 &&& (2147483647 : Int32)), .val (.long (p3 &&& (9223372036854775807 : Int64))), v_, iv ((p5.toUInt32 >>> ((1 : Int32) &&& 31).toUInt32).toInt32), iv j12, .val (.long j13), v_, rv b2, iv (own_wat (own_mx (1 : Int32) (p1 &&& (2147483647 : Int32))) (p2 &&& (2147483647 : Int32)) (p3 &&& (9223372036854775807 : Int64)) j13), .val (.long (own_mxL (0 : Int64) (j13 - (p3 &&& (9223372036854775807 : Int64))))), v_, .val (.long ((own_mx (1 : Int32) (p1 &&& (2147483647 : Int32))).toInt64)), v_, .val (.long ((p2 &&& (2147483647 : Int32)).toInt64)), v_, u_, u_, u_, u_] [(.long ((own_mxL (0 : Int64) (j13 - (p3 &&& (9223372036854775807 : Int64)))) * ((own_mx (1 : Int32) (p1 &&& (2147483647 : Int32))).toInt64)))]) (fun _ k => XS.i2l X17.here hx rfl (hb hby at_162) rfl (XS.lstore X17.here hx rfl (hb hby at_163) rfl (l' := #[iv p1, iv p2, .val (.long p3), v_, .val (.long p4), v_, iv p5, iv (own_mx (1 : Int32) (p1 &&& (2147483647 : Int32))), iv (p2 &&& (2147483647 : Int32)), .val (.long (p3 &&& (9223372036854775807 : Int64))), v_, iv ((p5.toUInt32 >>> ((1 : Int32) &&& 31).toUInt32).toInt32), iv j12, .val (.long j13), v_, rv b2, iv (own_wat (own_mx (1 : Int32) (p1 &&& (2147483647 : Int32))) (p2 &&& (2147483647 : Int32)) (p3 &&& (9223372036854775807 : Int64)) j13), .val (.long (own_mxL (0 : Int64) (j13 - (p3 &&& (9223372036854775807 : Int64))))), v_, .val (.long ((own_mx (1 : Int32) (p1 &&& (2147483647 : Int32))).toInt64)), v_, .val (.long ((p2 &&& (2147483647 : Int32)).toInt64)), v_, u_, u_, u_, u_]) rfl (XS.lload X17.here hx rfl (hb hby at_165) rfl  (XS.lload X17.here hx rfl (hb hby at_167) rfl  (XS.lmul X17.here hx rfl (hb hby at_169) rfl k))))) ?_
      refine own_s T17 (mkF m 179 #[iv p1, iv p2, .val (.long p3), v_, .val (.long p4), v_, iv p5, iv (own_mx (1 : Int32) (p1 &&& (2147483647 : Int32))), iv (p2 &&& (2147483647 : Int32)), .val (.long (p3 &&& (9223372036854775807 : Int64))), v_, iv ((p5.toUInt32 >>> ((1 : Int32) &&& 31).toUInt32).toInt32), iv j12, .val (.long j13), v_, rv b2, iv (own_wat (own_mx (1 : Int32) (p1 &&& (2147483647 : Int32))) (p2 &&& (2147483647 : Int32)) (p3 &&& (9223372036854775807 : Int64)) j13), .val (.long (own_mxL (0 : Int64) (j13 - (p3 &&& (9223372036854775807 : Int64))))), v_, .val (.long ((own_mx (1 : Int32) (p1 &&& (2147483647 : Int32))).toInt64)), v_, .val (.long ((p2 &&& (2147483647 : Int32)).toInt64)), v_, .val (.long ((own_mxL (0 : Int64) (j13 - (p3 &&& (9223372036854775807 : Int64)))) * ((own_mx (1 : Int32) (p1 &&& (2147483647 : Int32))).toInt64))), v_, .val (.long ((own_wat (own_mx (1 : Int32) (p1 &&& (2147483647 : Int32))) (p2 &&& (2147483647 : Int32)) (p3 &&& (9223372036854775807 : Int64)) j13).toInt64)), v_] [(.long ((own_wat (own_mx (1 : Int32) (p1 &&& (2147483647 : Int32))) (p2 &&& (2147483647 : Int32)) (p3 &&& (9223372036854775807 : Int64)) j13).toInt64))]) (fun _ k => XS.lstore X17.here hx rfl (hb hby at_170) rfl (l' := #[iv p1, iv p2, .val (.long p3), v_, .val (.long p4), v_, iv p5, iv (own_mx (1 : Int32) (p1 &&& (2147483647 : Int32))), iv (p2 &&& (2147483647 : Int32)), .val (.long (p3 &&& (9223372036854775807 : Int64))), v_, iv ((p5.toUInt32 >>> ((1 : Int32) &&& 31).toUInt32).toInt32), iv j12, .val (.long j13), v_, rv b2, iv (own_wat (own_mx (1 : Int32) (p1 &&& (2147483647 : Int32))) (p2 &&& (2147483647 : Int32)) (p3 &&& (9223372036854775807 : Int64)) j13), .val (.long (own_mxL (0 : Int64) (j13 - (p3 &&& (9223372036854775807 : Int64))))), v_, .val (.long ((own_mx (1 : Int32) (p1 &&& (2147483647 : Int32))).toInt64)), v_, .val (.long ((p2 &&& (2147483647 : Int32)).toInt64)), v_, .val (.long ((own_mxL (0 : Int64) (j13 - (p3 &&& (9223372036854775807 : Int64)))) * ((own_mx (1 : Int32) (p1 &&& (2147483647 : Int32))).toInt64))), v_, u_, u_]) rfl (XS.iload X17.here hx rfl (hb hby at_172) rfl  (XS.i2l X17.here hx rfl (hb hby at_174) rfl (XS.lstore X17.here hx rfl (hb hby at_175) rfl (l' := #[iv p1, iv p2, .val (.long p3), v_, .val (.long p4), v_, iv p5, iv (own_mx (1 : Int32) (p1 &&& (2147483647 : Int32))), iv (p2 &&& (2147483647 : Int32)), .val (.long (p3 &&& (9223372036854775807 : Int64))), v_, iv ((p5.toUInt32 >>> ((1 : Int32) &&& 31).toUInt32).toInt32), iv j12, .val (.long j13), v_, rv b2, iv (own_wat (own_mx (1 : Int32) (p1 &&& (2147483647 : Int32))) (p2 &&& (2147483647 : Int32)) (p3 &&& (9223372036854775807 : Int64)) j13), .val (.long (own_mxL (0 : Int64) (j13 - (p3 &&& (9223372036854775807 : Int64))))), v_, .val (.long ((own_mx (1 : Int32) (p1 &&& (2147483647 : Int32))).toInt64)), v_, .val (.long ((p2 &&& (2147483647 : Int32)).toInt64)), v_, .val (.long ((own_mxL (0 : Int64) (j13 - (p3 &&& (9223372036854775807 : Int64)))) * ((own_mx (1 : Int32) (p1 &&& (2147483647 : Int32))).toInt64))), v_, .val (.long ((own_wat (own_mx (1 : Int32) (p1 &&& (2147483647 : Int32))) (p2 &&& (2147483647 : Int32)) (p3 &&& (9223372036854775807 : Int64)) j13).toInt64)), v_]) rfl (XS.lload X17.here hx rfl (hb hby at_177) rfl  k))))) ?_
      refine own_s T17 (mkF m 186 #[iv p1, iv p2, .val (.long p3), v_, .val (.long p4), v_, iv p5, iv (own_mx (1 : Int32) (p1 &&& (2147483647 : Int32))), iv (p2 &&& (2147483647 : Int32)), .val (.long (p3 &&& (9223372036854775807 : Int64))), v_, iv ((p5.toUInt32 >>> ((1 : Int32) &&& 31).toUInt32).toInt32), iv j12, .val (.long j13), v_, rv b2, iv (own_wat (own_mx (1 : Int32) (p1 &&& (2147483647 : Int32))) (p2 &&& (2147483647 : Int32)) (p3 &&& (9223372036854775807 : Int64)) j13), .val (.long (own_mxL (0 : Int64) (j13 - (p3 &&& (9223372036854775807 : Int64))))), v_, .val (.long ((own_mx (1 : Int32) (p1 &&& (2147483647 : Int32))).toInt64)), v_, .val (.long ((p2 &&& (2147483647 : Int32)).toInt64)), v_, .val (.long ((own_mxL (0 : Int64) (j13 - (p3 &&& (9223372036854775807 : Int64)))) * ((own_mx (1 : Int32) (p1 &&& (2147483647 : Int32))).toInt64))), v_, .val (.long ((own_wat (own_mx (1 : Int32) (p1 &&& (2147483647 : Int32))) (p2 &&& (2147483647 : Int32)) (p3 &&& (9223372036854775807 : Int64)) j13).toInt64)), v_] [(.long ((own_mxL (0 : Int64) (j13 - (p3 &&& (9223372036854775807 : Int64)))) * ((own_mx (1 : Int32) (p1 &&& (2147483647 : Int32))).toInt64))), (.long ((p2 &&& (2147483647 : Int32)).toInt64)), (.long (((own_wat (own_mx (1 : Int32) (p1 &&& (2147483647 : Int32))) (p2 &&& (2147483647 : Int32)) (p3 &&& (9223372036854775807 : Int64)) j13).toInt64) * ((p2 &&& (2147483647 : Int32)).toInt64)))]) (fun _ k => XS.lload X17.here hx rfl (hb hby at_179) rfl  (XS.lmul X17.here hx rfl (hb hby at_181) rfl (XS.lload X17.here hx rfl (hb hby at_182) rfl  (XS.lload X17.here hx rfl (hb hby at_184) rfl  k)))) ?_
      obtain ⟨v18, T18, L18, X18, hQ18, st18⟩ := own_callS X17 hx hZ (y := own_y1) (W := 2) hown (own_h hw 46 rfl) (own_h hw 44 rfl) (own_h hw 3 rfl) (own_h hw 45 rfl) (by decide) (own_rmml l Z a0 hw [] ((p2 &&& (2147483647 : Int32)).toInt64) ((own_mxL (0 : Int64) (j13 - (p3 &&& (9223372036854775807 : Int64)))) * ((own_mx (1 : Int32) (p1 &&& (2147483647 : Int32))).toInt64)) T15.heap n0 Z15) (by decide) (by decide) (g := (mkF m 186 #[iv p1, iv p2, .val (.long p3), v_, .val (.long p4), v_, iv p5, iv (own_mx (1 : Int32) (p1 &&& (2147483647 : Int32))), iv (p2 &&& (2147483647 : Int32)), .val (.long (p3 &&& (9223372036854775807 : Int64))), v_, iv ((p5.toUInt32 >>> ((1 : Int32) &&& 31).toUInt32).toInt32), iv j12, .val (.long j13), v_, rv b2, iv (own_wat (own_mx (1 : Int32) (p1 &&& (2147483647 : Int32))) (p2 &&& (2147483647 : Int32)) (p3 &&& (9223372036854775807 : Int64)) j13), .val (.long (own_mxL (0 : Int64) (j13 - (p3 &&& (9223372036854775807 : Int64))))), v_, .val (.long ((own_mx (1 : Int32) (p1 &&& (2147483647 : Int32))).toInt64)), v_, .val (.long ((p2 &&& (2147483647 : Int32)).toInt64)), v_, .val (.long ((own_mxL (0 : Int64) (j13 - (p3 &&& (9223372036854775807 : Int64)))) * ((own_mx (1 : Int32) (p1 &&& (2147483647 : Int32))).toInt64))), v_, .val (.long ((own_wat (own_mx (1 : Int32) (p1 &&& (2147483647 : Int32))) (p2 &&& (2147483647 : Int32)) (p3 &&& (9223372036854775807 : Int64)) j13).toInt64)), v_] [(.long ((own_mxL (0 : Int64) (j13 - (p3 &&& (9223372036854775807 : Int64)))) * ((own_mx (1 : Int32) (p1 &&& (2147483647 : Int32))).toInt64))), (.long ((p2 &&& (2147483647 : Int32)).toInt64)), (.long (((own_wat (own_mx (1 : Int32) (p1 &&& (2147483647 : Int32))) (p2 &&& (2147483647 : Int32)) (p3 &&& (9223372036854775807 : Int64)) j13).toInt64) * ((p2 &&& (2147483647 : Int32)).toInt64)))])) rfl (by rw [hml]; rfl) (argsL := [(.long ((p2 &&& (2147483647 : Int32)).toInt64)), (.long ((own_mxL (0 : Int64) (j13 - (p3 &&& (9223372036854775807 : Int64)))) * ((own_mx (1 : Int32) (p1 &&& (2147483647 : Int32))).toInt64)))]) (rest := [(.long (((own_wat (own_mx (1 : Int32) (p1 &&& (2147483647 : Int32))) (p2 &&& (2147483647 : Int32)) (p3 &&& (9223372036854775807 : Int64)) j13).toInt64) * ((p2 &&& (2147483647 : Int32)).toInt64)))]) rfl (lenOf own_pd1 rfl) rfl (by show 2 * 0 + _ ≤ _; exact Nat.le_of_eq rfl) (hb hby at_186) e17 (by decide) (by decide)
      obtain ⟨rfl, Nq18, e18⟩ := hQ18
      have N18 := Fr.app N17 Nq18
      refine own_s T18 (mkF m 189 #[iv p1, iv p2, .val (.long p3), v_, .val (.long p4), v_, iv p5, iv (own_mx (1 : Int32) (p1 &&& (2147483647 : Int32))), iv (p2 &&& (2147483647 : Int32)), .val (.long (p3 &&& (9223372036854775807 : Int64))), v_, iv ((p5.toUInt32 >>> ((1 : Int32) &&& 31).toUInt32).toInt32), iv j12, .val (.long j13), v_, rv b2, iv (own_wat (own_mx (1 : Int32) (p1 &&& (2147483647 : Int32))) (p2 &&& (2147483647 : Int32)) (p3 &&& (9223372036854775807 : Int64)) j13), .val (.long (own_mxL (0 : Int64) (j13 - (p3 &&& (9223372036854775807 : Int64))))), v_, .val (.long ((own_mx (1 : Int32) (p1 &&& (2147483647 : Int32))).toInt64)), v_, .val (.long ((p2 &&& (2147483647 : Int32)).toInt64)), v_, .val (.long ((own_mxL (0 : Int64) (j13 - (p3 &&& (9223372036854775807 : Int64)))) * ((own_mx (1 : Int32) (p1 &&& (2147483647 : Int32))).toInt64))), v_, .val (.long ((own_wat (own_mx (1 : Int32) (p1 &&& (2147483647 : Int32))) (p2 &&& (2147483647 : Int32)) (p3 &&& (9223372036854775807 : Int64)) j13).toInt64)), v_] [(.long (own_mxL ((p2 &&& (2147483647 : Int32)).toInt64) ((own_mxL (0 : Int64) (j13 - (p3 &&& (9223372036854775807 : Int64)))) * ((own_mx (1 : Int32) (p1 &&& (2147483647 : Int32))).toInt64)))), (.long (((own_wat (own_mx (1 : Int32) (p1 &&& (2147483647 : Int32))) (p2 &&& (2147483647 : Int32)) (p3 &&& (9223372036854775807 : Int64)) j13).toInt64) * ((p2 &&& (2147483647 : Int32)).toInt64)))]) st18 ?_
      refine own_s T18 (mkF m 198 #[iv p1, iv p2, .val (.long p3), v_, .val (.long p4), v_, iv p5, iv (own_mx (1 : Int32) (p1 &&& (2147483647 : Int32))), iv (p2 &&& (2147483647 : Int32)), .val (.long (p3 &&& (9223372036854775807 : Int64))), v_, iv ((p5.toUInt32 >>> ((1 : Int32) &&& 31).toUInt32).toInt32), iv j12, .val (.long j13), v_, rv b2, iv (own_wat (own_mx (1 : Int32) (p1 &&& (2147483647 : Int32))) (p2 &&& (2147483647 : Int32)) (p3 &&& (9223372036854775807 : Int64)) j13), .val (.long (own_mxL (0 : Int64) (j13 - (p3 &&& (9223372036854775807 : Int64))))), v_, .val (.long ((own_mx (1 : Int32) (p1 &&& (2147483647 : Int32))).toInt64)), v_, .val (.long ((p2 &&& (2147483647 : Int32)).toInt64)), v_, .val (.long ((own_mxL (0 : Int64) (j13 - (p3 &&& (9223372036854775807 : Int64)))) * ((own_mx (1 : Int32) (p1 &&& (2147483647 : Int32))).toInt64))), v_, .val (.long ((own_wat (own_mx (1 : Int32) (p1 &&& (2147483647 : Int32))) (p2 &&& (2147483647 : Int32)) (p3 &&& (9223372036854775807 : Int64)) j13).toInt64)), v_] [(.long 1), (.long ((own_wat (own_mx (1 : Int32) (p1 &&& (2147483647 : Int32))) (p2 &&& (2147483647 : Int32)) (p3 &&& (9223372036854775807 : Int64)) j13).toInt64)), (.long ((own_mxL (0 : Int64) (j13 - (p3 &&& (9223372036854775807 : Int64)))) * ((own_mx (1 : Int32) (p1 &&& (2147483647 : Int32))).toInt64)))]) (fun _ k => XS.lcmp X18.here hx rfl (hb hby at_189) rfl (XS.ifNo X18.here hx rfl (hb hby at_190) rfl ((if0 _ _).trans (flt (own_lcgtN (own_r4 (own_w1 p1) (own_m0 p2) c139))).2.2.1) (XS.lload X18.here hx rfl (hb hby at_193) rfl  (XS.lload X18.here hx rfl (hb hby at_195) rfl  (XS.lconst X18.here hx rfl (hb hby at_197) k))))) ?_
      refine own_s T18 (mkF m 206 #[iv p1, iv p2, .val (.long p3), v_, .val (.long p4), v_, iv p5, iv (own_mx (1 : Int32) (p1 &&& (2147483647 : Int32))), iv (p2 &&& (2147483647 : Int32)), .val (.long (p3 &&& (9223372036854775807 : Int64))), v_, iv ((p5.toUInt32 >>> ((1 : Int32) &&& 31).toUInt32).toInt32), iv j12, .val (.long j13), v_, rv b2, iv (own_wat (own_mx (1 : Int32) (p1 &&& (2147483647 : Int32))) (p2 &&& (2147483647 : Int32)) (p3 &&& (9223372036854775807 : Int64)) j13), .val (.long (own_mxL (0 : Int64) (j13 - (p3 &&& (9223372036854775807 : Int64))))), v_, .val (.long ((own_mx (1 : Int32) (p1 &&& (2147483647 : Int32))).toInt64)), v_, .val (.long ((p2 &&& (2147483647 : Int32)).toInt64)), v_, .val (.long ((own_mxL (0 : Int64) (j13 - (p3 &&& (9223372036854775807 : Int64)))) * ((own_mx (1 : Int32) (p1 &&& (2147483647 : Int32))).toInt64))), v_, .val (.long ((own_wat (own_mx (1 : Int32) (p1 &&& (2147483647 : Int32))) (p2 &&& (2147483647 : Int32)) (p3 &&& (9223372036854775807 : Int64)) j13).toInt64)), v_] []) (fun _ k => XS.ladd X18.here hx rfl (hb hby at_198) rfl (XS.lload X18.here hx rfl (hb hby at_199) rfl  (XS.lmul X18.here hx rfl (hb hby at_201) rfl (XS.lcmp X18.here hx rfl (hb hby at_202) rfl (XS.ifNo X18.here hx rfl (hb hby at_203) rfl ((if0 _ _).trans (tlt (own_lclt (own_r5 (own_w1 p1) (own_m0 p2) c139))).2.1) k))))) ?_
      refine own_s T18 (mkF m 211 #[iv p1, iv p2, .val (.long p3), v_, .val (.long p4), v_, iv p5, iv (own_mx (1 : Int32) (p1 &&& (2147483647 : Int32))), iv (p2 &&& (2147483647 : Int32)), .val (.long (p3 &&& (9223372036854775807 : Int64))), v_, iv ((p5.toUInt32 >>> ((1 : Int32) &&& 31).toUInt32).toInt32), iv j12, .val (.long j13), v_, rv b2, iv (own_wat (own_mx (1 : Int32) (p1 &&& (2147483647 : Int32))) (p2 &&& (2147483647 : Int32)) (p3 &&& (9223372036854775807 : Int64)) j13), .val (.long (own_mxL (0 : Int64) (j13 - (p3 &&& (9223372036854775807 : Int64))))), v_, .val (.long ((own_mx (1 : Int32) (p1 &&& (2147483647 : Int32))).toInt64)), v_, .val (.long ((p2 &&& (2147483647 : Int32)).toInt64)), v_, .val (.long ((own_mxL (0 : Int64) (j13 - (p3 &&& (9223372036854775807 : Int64)))) * ((own_mx (1 : Int32) (p1 &&& (2147483647 : Int32))).toInt64))), v_, .val (.long ((own_wat (own_mx (1 : Int32) (p1 &&& (2147483647 : Int32))) (p2 &&& (2147483647 : Int32)) (p3 &&& (9223372036854775807 : Int64)) j13).toInt64)), v_] [(.int 1)]) (fun _ k => XS.iconst X18.here hx rfl (hb hby at_206) (XS.goto X18.here hx rfl (pc0 := 207) (pc' := 211) rfl (hb hby at_207) (by decide) (by decide) k)) ?_
      exact own_finZ X18 hx (t := .boolean) hret (by simp) (z' := (1 : Int32)) rfl (hb hby at_211) (own_endW (Qv := (own_Q0 Z p1 p2 p3 p4 p5 h0 n0)) X18 hS (own_some hret) hlk (by decide) (by decide) e18 hk15 (fun vm' hv' => ⟨rfl, N18⟩))
    · refine own_s T17 (mkF m 150 #[iv p1, iv p2, .val (.long p3), v_, .val (.long p4), v_, iv p5, iv (own_mx (1 : Int32) (p1 &&& (2147483647 : Int32))), iv (p2 &&& (2147483647 : Int32)), .val (.long (p3 &&& (9223372036854775807 : Int64))), v_, iv ((p5.toUInt32 >>> ((1 : Int32) &&& 31).toUInt32).toInt32), iv j12, .val (.long j13), v_, rv b2, iv (own_wat (own_mx (1 : Int32) (p1 &&& (2147483647 : Int32))) (p2 &&& (2147483647 : Int32)) (p3 &&& (9223372036854775807 : Int64)) j13), .val (.long (own_mxL (0 : Int64) (j13 - (p3 &&& (9223372036854775807 : Int64))))), v_, u_, u_, u_, u_, u_, u_, u_, u_] [(.int 1)]) (fun _ k => XS.ifNo X17.here hx rfl (hb hby at_139) rfl ((if0 _ _).trans (flt (own_lcltN c139)).1) (XS.iload X17.here hx rfl (hb hby at_142) rfl  (XS.iload X17.here hx rfl (hb hby at_144) rfl  (XS.icmpNo X17.here hx rfl (hb hby at_146) rfl (teq (own_r3 c139)).2 (XS.iconst X17.here hx rfl (hb hby at_149) k))))) ?_
      refine own_s T17 (mkF m 154 #[iv p1, iv p2, .val (.long p3), v_, .val (.long p4), v_, iv p5, iv (own_mx (1 : Int32) (p1 &&& (2147483647 : Int32))), iv (p2 &&& (2147483647 : Int32)), .val (.long (p3 &&& (9223372036854775807 : Int64))), v_, iv ((p5.toUInt32 >>> ((1 : Int32) &&& 31).toUInt32).toInt32), iv j12, .val (.long j13), v_, rv b2, iv (own_wat (own_mx (1 : Int32) (p1 &&& (2147483647 : Int32))) (p2 &&& (2147483647 : Int32)) (p3 &&& (9223372036854775807 : Int64)) j13), .val (.long (own_mxL (0 : Int64) (j13 - (p3 &&& (9223372036854775807 : Int64))))), v_, u_, u_, u_, u_, u_, u_, u_, u_] [(.int 1)]) (fun _ k => XS.goto X17.here hx rfl (pc0 := 150) (pc' := 154) rfl (hb hby at_150) (by decide) (by decide) k) ?_
      exact own_finZ X17 hx (t := .boolean) hret (by simp) (z' := (1 : Int32)) rfl (hb hby at_154) (own_endW (Qv := (own_Q0 Z p1 p2 p3 p4 p5 h0 n0)) X17 hS (own_some hret) hlk (by decide) (by decide) e17 hk15 (fun vm' hv' => ⟨rfl, N17⟩))
  by_cases c33 : (p5 &&& (1 : Int32)) = (0 : Int32)
  · refine own_s T1 (mkF m 72 #[iv p1, iv p2, .val (.long p3), v_, .val (.long p4), v_, iv p5, iv (own_mx (1 : Int32) (p1 &&& (2147483647 : Int32))), iv (p2 &&& (2147483647 : Int32)), .val (.long (p3 &&& (9223372036854775807 : Int64))), v_, iv ((p5.toUInt32 >>> ((1 : Int32) &&& 31).toUInt32).toInt32), iv 0, u_, u_, u_, u_, u_, u_, u_, u_, u_, u_, u_, u_, u_, u_] []) (fun _ k => XS.ifYes X1.here hx rfl (pc0 := 33) (pc' := 40) rfl (hb hby at_33) rfl ((if0 _ _).trans (teq c33).1) (by decide) (by decide) (XS.iconst X1.here hx rfl (hb hby at_40) (XS.istore X1.here hx rfl (hb hby at_41) rfl (l' := #[iv p1, iv p2, .val (.long p3), v_, .val (.long p4), v_, iv p5, iv (own_mx (1 : Int32) (p1 &&& (2147483647 : Int32))), iv (p2 &&& (2147483647 : Int32)), .val (.long (p3 &&& (9223372036854775807 : Int64))), v_, iv ((p5.toUInt32 >>> ((1 : Int32) &&& 31).toUInt32).toInt32), iv 0, u_, u_, u_, u_, u_, u_, u_, u_, u_, u_, u_, u_, u_, u_]) rfl (XS.iload X1.here hx rfl (hb hby at_43) rfl  (XS.ifYes X1.here hx rfl (pc0 := 45) (pc' := 72) rfl (hb hby at_45) rfl ((if0 _ _).trans (teq (by decide : ((0 : Int32) = (0 : Int32)))).1) (by decide) (by decide) k))))) ?_
    refine own_s T1 (mkF m 74 #[iv p1, iv p2, .val (.long p3), v_, .val (.long p4), v_, iv p5, iv (own_mx (1 : Int32) (p1 &&& (2147483647 : Int32))), iv (p2 &&& (2147483647 : Int32)), .val (.long (p3 &&& (9223372036854775807 : Int64))), v_, iv ((p5.toUInt32 >>> ((1 : Int32) &&& 31).toUInt32).toInt32), iv 0, u_, u_, u_, u_, u_, u_, u_, u_, u_, u_, u_, u_, u_, u_] [(.long p4)]) (fun _ k => XS.lload X1.here hx rfl (hb hby at_72) rfl  k) ?_
    refine own_s T1 (mkF m 77 #[iv p1, iv p2, .val (.long p3), v_, .val (.long p4), v_, iv p5, iv (own_mx (1 : Int32) (p1 &&& (2147483647 : Int32))), iv (p2 &&& (2147483647 : Int32)), .val (.long (p3 &&& (9223372036854775807 : Int64))), v_, iv ((p5.toUInt32 >>> ((1 : Int32) &&& 31).toUInt32).toInt32), iv 0, u_, u_, u_, u_, u_, u_, u_, u_, u_, u_, u_, u_, u_, u_] [(.long 9223372036854775807), (.long p4)]) (X1.ldc2Long hx hown (mvT hZ (own_h hw 5 rfl)) (g := (mkF m 74 #[iv p1, iv p2, .val (.long p3), v_, .val (.long p4), v_, iv p5, iv (own_mx (1 : Int32) (p1 &&& (2147483647 : Int32))), iv (p2 &&& (2147483647 : Int32)), .val (.long (p3 &&& (9223372036854775807 : Int64))), v_, iv ((p5.toUInt32 >>> ((1 : Int32) &&& 31).toUInt32).toInt32), iv 0, u_, u_, u_, u_, u_, u_, u_, u_, u_, u_, u_, u_, u_, u_] [(.long p4)])) rfl (hb hby at_74)) ?_
    refine own_s T1 (mkF m 80 #[iv p1, iv p2, .val (.long p3), v_, .val (.long p4), v_, iv p5, iv (own_mx (1 : Int32) (p1 &&& (2147483647 : Int32))), iv (p2 &&& (2147483647 : Int32)), .val (.long (p3 &&& (9223372036854775807 : Int64))), v_, iv ((p5.toUInt32 >>> ((1 : Int32) &&& 31).toUInt32).toInt32), iv 0, .val (.long (p4 &&& (9223372036854775807 : Int64))), v_, u_, u_, u_, u_, u_, u_, u_, u_, u_, u_, u_, u_] []) (fun _ k => XS.land X1.here hx rfl (hb hby at_77) rfl (XS.lstore X1.here hx rfl (hb hby at_78) rfl (l' := #[iv p1, iv p2, .val (.long p3), v_, .val (.long p4), v_, iv p5, iv (own_mx (1 : Int32) (p1 &&& (2147483647 : Int32))), iv (p2 &&& (2147483647 : Int32)), .val (.long (p3 &&& (9223372036854775807 : Int64))), v_, iv ((p5.toUInt32 >>> ((1 : Int32) &&& 31).toUInt32).toInt32), iv 0, .val (.long (p4 &&& (9223372036854775807 : Int64))), v_, u_, u_, u_, u_, u_, u_, u_, u_, u_, u_, u_, u_]) rfl k)) ?_
    exact J80 (0 : Int32) (p4 &&& (9223372036854775807 : Int64))
  · refine own_s T1 (mkF m 45 #[iv p1, iv p2, .val (.long p3), v_, .val (.long p4), v_, iv p5, iv (own_mx (1 : Int32) (p1 &&& (2147483647 : Int32))), iv (p2 &&& (2147483647 : Int32)), .val (.long (p3 &&& (9223372036854775807 : Int64))), v_, iv ((p5.toUInt32 >>> ((1 : Int32) &&& 31).toUInt32).toInt32), iv 1, u_, u_, u_, u_, u_, u_, u_, u_, u_, u_, u_, u_, u_, u_] [(.int 1)]) (fun _ k => XS.ifNo X1.here hx rfl (hb hby at_33) rfl ((if0 _ _).trans (feq c33).1) (XS.iconst X1.here hx rfl (hb hby at_36) (XS.goto X1.here hx rfl (pc0 := 37) (pc' := 41) rfl (hb hby at_37) (by decide) (by decide) (XS.istore X1.here hx rfl (hb hby at_41) rfl (l' := #[iv p1, iv p2, .val (.long p3), v_, .val (.long p4), v_, iv p5, iv (own_mx (1 : Int32) (p1 &&& (2147483647 : Int32))), iv (p2 &&& (2147483647 : Int32)), .val (.long (p3 &&& (9223372036854775807 : Int64))), v_, iv ((p5.toUInt32 >>> ((1 : Int32) &&& 31).toUInt32).toInt32), iv 1, u_, u_, u_, u_, u_, u_, u_, u_, u_, u_, u_, u_, u_, u_]) rfl (XS.iload X1.here hx rfl (hb hby at_43) rfl  k))))) ?_
    refine own_s T1 (mkF m 50 #[iv p1, iv p2, .val (.long p3), v_, .val (.long p4), v_, iv p5, iv (own_mx (1 : Int32) (p1 &&& (2147483647 : Int32))), iv (p2 &&& (2147483647 : Int32)), .val (.long (p3 &&& (9223372036854775807 : Int64))), v_, iv ((p5.toUInt32 >>> ((1 : Int32) &&& 31).toUInt32).toInt32), iv 1, u_, u_, u_, u_, u_, u_, u_, u_, u_, u_, u_, u_, u_, u_] [(.long (p3 &&& (9223372036854775807 : Int64)))]) (fun _ k => XS.ifNo X1.here hx rfl (hb hby at_45) rfl ((if0 _ _).trans (feq (by decide : ¬ ((1 : Int32) = (0 : Int32)))).1) (XS.lload X1.here hx rfl (hb hby at_48) rfl  k)) ?_
    refine own_s T1 (mkF m 53 #[iv p1, iv p2, .val (.long p3), v_, .val (.long p4), v_, iv p5, iv (own_mx (1 : Int32) (p1 &&& (2147483647 : Int32))), iv (p2 &&& (2147483647 : Int32)), .val (.long (p3 &&& (9223372036854775807 : Int64))), v_, iv ((p5.toUInt32 >>> ((1 : Int32) &&& 31).toUInt32).toInt32), iv 1, u_, u_, u_, u_, u_, u_, u_, u_, u_, u_, u_, u_, u_, u_] [(.long 9223372036854775807), (.long (p3 &&& (9223372036854775807 : Int64)))]) (X1.ldc2Long hx hown (mvT hZ (own_h hw 5 rfl)) (g := (mkF m 50 #[iv p1, iv p2, .val (.long p3), v_, .val (.long p4), v_, iv p5, iv (own_mx (1 : Int32) (p1 &&& (2147483647 : Int32))), iv (p2 &&& (2147483647 : Int32)), .val (.long (p3 &&& (9223372036854775807 : Int64))), v_, iv ((p5.toUInt32 >>> ((1 : Int32) &&& 31).toUInt32).toInt32), iv 1, u_, u_, u_, u_, u_, u_, u_, u_, u_, u_, u_, u_, u_, u_] [(.long (p3 &&& (9223372036854775807 : Int64)))])) rfl (hb hby at_50)) ?_
    refine own_s T1 (mkF m 58 #[iv p1, iv p2, .val (.long p3), v_, .val (.long p4), v_, iv p5, iv (own_mx (1 : Int32) (p1 &&& (2147483647 : Int32))), iv (p2 &&& (2147483647 : Int32)), .val (.long (p3 &&& (9223372036854775807 : Int64))), v_, iv ((p5.toUInt32 >>> ((1 : Int32) &&& 31).toUInt32).toInt32), iv 1, u_, u_, u_, u_, u_, u_, u_, u_, u_, u_, u_, u_, u_, u_] [(.int (lcmpW (p3 &&& (9223372036854775807 : Int64)) ((9223372036854775807 : Int64) - (((p5.toUInt32 >>> ((1 : Int32) &&& 31).toUInt32).toInt32).toInt64))))]) (fun _ k => XS.iload X1.here hx rfl (hb hby at_53) rfl  (XS.i2l X1.here hx rfl (hb hby at_55) rfl (XS.lsub X1.here hx rfl (hb hby at_56) rfl (XS.lcmp X1.here hx rfl (hb hby at_57) rfl k)))) ?_
    by_cases c58 : ((9223372036854775807 : Int64) - (((p5.toUInt32 >>> ((1 : Int32) &&& 31).toUInt32).toInt32).toInt64)) < (p3 &&& (9223372036854775807 : Int64))
    · refine own_s T1 (mkF m 74 #[iv p1, iv p2, .val (.long p3), v_, .val (.long p4), v_, iv p5, iv (own_mx (1 : Int32) (p1 &&& (2147483647 : Int32))), iv (p2 &&& (2147483647 : Int32)), .val (.long (p3 &&& (9223372036854775807 : Int64))), v_, iv ((p5.toUInt32 >>> ((1 : Int32) &&& 31).toUInt32).toInt32), iv 1, u_, u_, u_, u_, u_, u_, u_, u_, u_, u_, u_, u_, u_, u_] [(.long p4)]) (fun _ k => XS.ifYes X1.here hx rfl (pc0 := 58) (pc' := 72) rfl (hb hby at_58) rfl ((if0 _ _).trans (tlt (own_lcgt c58)).2.2.1) (by decide) (by decide) (XS.lload X1.here hx rfl (hb hby at_72) rfl  k)) ?_
      refine own_s T1 (mkF m 77 #[iv p1, iv p2, .val (.long p3), v_, .val (.long p4), v_, iv p5, iv (own_mx (1 : Int32) (p1 &&& (2147483647 : Int32))), iv (p2 &&& (2147483647 : Int32)), .val (.long (p3 &&& (9223372036854775807 : Int64))), v_, iv ((p5.toUInt32 >>> ((1 : Int32) &&& 31).toUInt32).toInt32), iv 1, u_, u_, u_, u_, u_, u_, u_, u_, u_, u_, u_, u_, u_, u_] [(.long 9223372036854775807), (.long p4)]) (X1.ldc2Long hx hown (mvT hZ (own_h hw 5 rfl)) (g := (mkF m 74 #[iv p1, iv p2, .val (.long p3), v_, .val (.long p4), v_, iv p5, iv (own_mx (1 : Int32) (p1 &&& (2147483647 : Int32))), iv (p2 &&& (2147483647 : Int32)), .val (.long (p3 &&& (9223372036854775807 : Int64))), v_, iv ((p5.toUInt32 >>> ((1 : Int32) &&& 31).toUInt32).toInt32), iv 1, u_, u_, u_, u_, u_, u_, u_, u_, u_, u_, u_, u_, u_, u_] [(.long p4)])) rfl (hb hby at_74)) ?_
      refine own_s T1 (mkF m 80 #[iv p1, iv p2, .val (.long p3), v_, .val (.long p4), v_, iv p5, iv (own_mx (1 : Int32) (p1 &&& (2147483647 : Int32))), iv (p2 &&& (2147483647 : Int32)), .val (.long (p3 &&& (9223372036854775807 : Int64))), v_, iv ((p5.toUInt32 >>> ((1 : Int32) &&& 31).toUInt32).toInt32), iv 1, .val (.long (p4 &&& (9223372036854775807 : Int64))), v_, u_, u_, u_, u_, u_, u_, u_, u_, u_, u_, u_, u_] []) (fun _ k => XS.land X1.here hx rfl (hb hby at_77) rfl (XS.lstore X1.here hx rfl (hb hby at_78) rfl (l' := #[iv p1, iv p2, .val (.long p3), v_, .val (.long p4), v_, iv p5, iv (own_mx (1 : Int32) (p1 &&& (2147483647 : Int32))), iv (p2 &&& (2147483647 : Int32)), .val (.long (p3 &&& (9223372036854775807 : Int64))), v_, iv ((p5.toUInt32 >>> ((1 : Int32) &&& 31).toUInt32).toInt32), iv 1, .val (.long (p4 &&& (9223372036854775807 : Int64))), v_, u_, u_, u_, u_, u_, u_, u_, u_, u_, u_, u_, u_]) rfl k)) ?_
      exact J80 (1 : Int32) (p4 &&& (9223372036854775807 : Int64))
    · refine own_s T1 (mkF m 67 #[iv p1, iv p2, .val (.long p3), v_, .val (.long p4), v_, iv p5, iv (own_mx (1 : Int32) (p1 &&& (2147483647 : Int32))), iv (p2 &&& (2147483647 : Int32)), .val (.long (p3 &&& (9223372036854775807 : Int64))), v_, iv ((p5.toUInt32 >>> ((1 : Int32) &&& 31).toUInt32).toInt32), iv 1, u_, u_, u_, u_, u_, u_, u_, u_, u_, u_, u_, u_, u_, u_] [(.long ((p3 &&& (9223372036854775807 : Int64)) + (((p5.toUInt32 >>> ((1 : Int32) &&& 31).toUInt32).toInt32).toInt64)))]) (fun _ k => XS.ifNo X1.here hx rfl (hb hby at_58) rfl ((if0 _ _).trans (flt (own_lcgtN c58)).2.2.1) (XS.lload X1.here hx rfl (hb hby at_61) rfl  (XS.iload X1.here hx rfl (hb hby at_63) rfl  (XS.i2l X1.here hx rfl (hb hby at_65) rfl (XS.ladd X1.here hx rfl (hb hby at_66) rfl k))))) ?_
      refine own_s T1 (mkF m 80 #[iv p1, iv p2, .val (.long p3), v_, .val (.long p4), v_, iv p5, iv (own_mx (1 : Int32) (p1 &&& (2147483647 : Int32))), iv (p2 &&& (2147483647 : Int32)), .val (.long (p3 &&& (9223372036854775807 : Int64))), v_, iv ((p5.toUInt32 >>> ((1 : Int32) &&& 31).toUInt32).toInt32), iv 1, .val (.long ((p3 &&& (9223372036854775807 : Int64)) + (((p5.toUInt32 >>> ((1 : Int32) &&& 31).toUInt32).toInt32).toInt64))), v_, u_, u_, u_, u_, u_, u_, u_, u_, u_, u_, u_, u_] []) (fun _ k => XS.lstore X1.here hx rfl (hb hby at_67) rfl (l' := #[iv p1, iv p2, .val (.long p3), v_, .val (.long p4), v_, iv p5, iv (own_mx (1 : Int32) (p1 &&& (2147483647 : Int32))), iv (p2 &&& (2147483647 : Int32)), .val (.long (p3 &&& (9223372036854775807 : Int64))), v_, iv ((p5.toUInt32 >>> ((1 : Int32) &&& 31).toUInt32).toInt32), iv 1, .val (.long ((p3 &&& (9223372036854775807 : Int64)) + (((p5.toUInt32 >>> ((1 : Int32) &&& 31).toUInt32).toInt32).toInt64))), v_, u_, u_, u_, u_, u_, u_, u_, u_, u_, u_, u_, u_]) rfl (XS.goto X1.here hx rfl (pc0 := 69) (pc' := 80) rfl (hb hby at_69) (by decide) (by decide) k)) ?_
      exact J80 (1 : Int32) ((p3 &&& (9223372036854775807 : Int64)) + (((p5.toUInt32 >>> ((1 : Int32) &&& 31).toUInt32).toInt32).toInt64))
set_option maxRecDepth 65536 in
set_option maxHeartbeats 40000000 in
theorem comes_1 {Post : Tables → Env → Array Value → State → Outcome → State → Prop} (hpost : ∀ tb e args s v u, (limb_1_1.after args s (.returned v) u = true ∧ limb_1_2.after args s (.returned v) u = true ∧ True) → ReturnedEndW s (.returned v) u (Jvm.fieldLocs frame_1_writes args s ++ Jvm.arrayLocs frame_1_arrays args s ++ Jvm.staticLocs frame_1_statics s) 16 1152 → Post tb e args s (.returned v) u) :
    ArmFor flags0 classFile x code maxLocals ret World_1 tables_1 room_1 Calls_1 rest_1 Pre_1 Post := by
  intro l hfl _ _ p e ha hc hk s m args below hf hA hF happ hP
  obtain ⟨hcalls, hrest, hpre⟩ := hP
  obtain ⟨-, -, -, hnamed, -, -, -, hat⟩ := (Spec.applies_iff hf).mp happ
  obtain ⟨hg, hn⟩ := and_e (Cond.before_iff.mp (show (Jvm.Cond.and given_1 narrow_1).before args s = true from hpre))
  obtain ⟨g1, g2⟩ := and_e hg
  obtain ⟨g3, g4⟩ := and_e g2
  obtain ⟨g5, g6⟩ := and_e g4
  obtain ⟨g7, g8⟩ := and_e g6
  obtain ⟨g9, g10⟩ := and_e g8
  obtain ⟨w0, w1, w2, w3, w4, rfl⟩ : ∃ w0 w1 w2 w3 w4 : Value, args = #[w0, w1, w2, w3, w4] := by
    have hs : args.size = 5 := by simpa [Cond.value, given_1] using g1
    obtain ⟨L⟩ := args
    match L, hs with
    | [w0, w1, w2, w3, w4], _ => exact ⟨w0, w1, w2, w3, w4, rfl⟩
  have hw := fun d (hd : d ∈ tables_1) => atoms_spec (ws := Jvm.Cond.code x code maxLocals ret :: tables_1) hat d (List.mem_cons_of_mem _ hd)
  have hfit : Fit s := fun {y c} hc i hi => by
    obtain ⟨ha, rfl⟩ := Array.getElem?_eq_some_iff.mp hc
    have q := List.all_eq_true.mp ((Array.all_eq_true_iff_forall_mem.mp hF) _ (Array.getElem_mem ha)) i (List.mem_range.mpr hi)
    simpa [Array.getElem?_eq_getElem hi] using q
  obtain ⟨i0, ei0⟩ := is_v g3
  obtain rfl : w0 = (.int i0) := Option.some.inj ei0
  obtain ⟨i1, ei1⟩ := is_v g5
  obtain rfl : w1 = (.int i1) := Option.some.inj ei1
  obtain ⟨i2, ei2⟩ := isL_v g7
  obtain rfl : w2 = (.long i2) := Option.some.inj ei2
  obtain ⟨i3, ei3⟩ := isL_v g9
  obtain rfl : w3 = (.long i3) := Option.some.inj ei3
  obtain ⟨i4, ei4⟩ := is_v g10
  obtain rfl : w4 = (.int i4) := Option.some.inj ei4
  obtain ⟨n, o, h1, h2, h3, _, L, rfl, ⟨rfl, N⟩, hq⟩ := own_rm0 l s _ hw tables_1 i0 i1 i2 i3 i4 s.heap s.heap.size (Nat.le_refl _)  p e ha hc hk s m _ below hf ((Spec.applies_iff_loose hf).mp happ).1 ⟨rfl, State.Warmed39.refl s, rfl, trivial⟩ trivial
  refine ⟨n, _, h1, h2, h3, hpost _ _ _ _ _ _ ⟨Cond.after_iff.mpr rfl, Cond.after_iff.mpr (eq_i res_at (Term.int_eval (1)) rfl), trivial⟩ ⟨hq.1, hq.2.1, hq.2.2.1, (hq.2.2.2.sift fun y hy => Or.inr (N y hy)).mono (by decide) (by decide)⟩⟩
theorem main_1_1 : Claimed_1_1 := comes_1 fun _ _ _ _ _ _ h hF => ⟨h.1, hF⟩
theorem main_1_2 : Claimed_1_2 := comes_1 fun _ _ _ _ _ _ h hF => ⟨h.2.1, hF⟩
end Jvm.Pilot.@@N@@
namespace Jvm.Pilot.@@N@@
open Jvm Jvm.ClassFile Sem Op Lib Jvm.Free Jvm.Stand Jvm.Pilot.@@N@@.Jvm.D
/-! MADE BY PROGRAM (witnessworld.py) out of the Statement's table words and the real class files: 16 classes; the members and pool entries that the words name. The judged class is class 1, her method 1. -/
namespace start1
open Jvm.ClassFile
def u (s : String) : CpInfo := .utf8 (stringToUtf16 s)
/-- a pool by its gaps: so many unusable entries, then the entry; so many at the end -/
def gap : Nat → List CpInfo → List CpInfo
  | 0, r => r
  | n + 1, r => .unusable :: gap n r
def poolList (es : List (Nat × CpInfo)) (last : Nat) : List CpInfo := es.foldr (fun e r => gap e.1 (e.2 :: r)) (gap last [])
def pool (es : List (Nat × CpInfo)) (last : Nat) : Array CpInfo := ⟨poolList es last⟩
def fileOf (pool : Array CpInfo) (this : Nat) (attrs : Array Attribute := #[]) (ms : Array MethodInfo := #[]) (fl : Nat := 33) (sup : Nat := 0) (ifs : Array Nat := #[]) (fds : Array FieldInfo := #[]) : ClassFile where
  minorVersion := 0
  majorVersion := 65
  constantPool := pool
  accessFlags := fl
  thisClass := this
  superClass := sup
  interfaces := ifs
  fields := fds
  methods := ms
  attributes := attrs
def plain (name : String) (sup : Option ClassId) : Class where
  name := name
  kind := .ordinary
  loader := none
  accessFlags := 33
  super := sup
  interfaces := #[]
  cf := none
  fields := #[]
  methods := #[]
  instanceTypes := #[]
  staticTypes := #[]
  resolved := #[]
  callSites := []
  init := .initialized
  statics := none
  mirror := none

def pool0 : Array CpInfo := pool [(5, u "<init>"), (0, u "()V"), (1, .class_ 10), (1, u "java/lang/Object")] 113

def k0c0 : Code := { maxStack := 0, maxLocals := 1, code := object_method_1_code, exceptionTable := #[], attributes := #[] }
def k0m0 : Method := { name := "<init>", desc := "()V", sig := { parameters := [], returnType := none }, accessFlags := 1, code := some k0c0 }
/-- java/lang/Object -/
def k0 : Class := { plain "java/lang/Object" none with
  accessFlags := 33
  interfaces := #[]
  cf := some (fileOf pool0 8 #[] #[{ accessFlags := 1, nameIndex := 5, descriptorIndex := 6, attributes := #[] }] 33 0 #[] #[])
  fields := #[]
  methods := #[k0m0]
  instanceTypes := #[]
  staticTypes := #[]
  resolved := Array.replicate 124 none
  statics := none }

def pool1 : Array CpInfo := pool [(2, .class_ 4), (1, u "java/lang/Object"), (0, u "<init>"), (0, u "()V"), (0, .integer 2147483647), (0, .methodref 9 10), (0, .class_ 11), (0, .nameAndType 12 13), (0, u "java/lang/Math"), (0, u "max"), (0, u "(II)I"), (2, .long 9223372036854775807), (1, .class_ 19), (0, u "com/example/tidewire/tidewire/rpc/ProviderAddress"), (0, .string 21), (0, u "h"), (0, .methodref 18 23), (0, .nameAndType 5 24), (0, u "(Ljava/lang/String;IIIJ)V"), (0, .methodref 18 26), (0, .nameAndType 27 28), (0, u "weightAt"), (0, u "(J)I"), (0, .methodref 9 30), (0, .nameAndType 12 31), (0, u "(JJ)J"), (0, .class_ 33), (0, u "com/example/tidewire/tidewire/rpc/ProviderAddressWeightAtPinLaw"), (2, u "law"), (0, u "(IIJJI)Z")] 3

def k1m0 : Method := { name := "<init>", desc := "()V", sig := { parameters := [], returnType := none }, accessFlags := 1, code := none }
def k1c1 : Code := { maxStack := 8, maxLocals := 27, code := code, exceptionTable := #[], attributes := #[] }
def k1m1 : Method := { name := "law", desc := "(IIJJI)Z", sig := { parameters := [.int, .int, .long, .long, .int], returnType := some .boolean }, accessFlags := 9, code := some k1c1 }
/-- com/example/tidewire/tidewire/rpc/ProviderAddressWeightAtPinLaw -/
def k1 : Class := { plain "com/example/tidewire/tidewire/rpc/ProviderAddressWeightAtPinLaw" (some 0) with
  accessFlags := 49
  interfaces := #[]
  cf := some (fileOf pool1 32 #[] #[{ accessFlags := 1, nameIndex := 5, descriptorIndex := 6, attributes := #[] }, { accessFlags := 9, nameIndex := 36, descriptorIndex := 37, attributes := #[] }] 49 2 #[] #[])
  fields := #[]
  methods := #[k1m0, k1m1]
  instanceTypes := #[]
  staticTypes := #[]
  resolved := Array.replicate 41 none
  statics := none }

def pool2 : Array CpInfo := pool [(1, .class_ 2), (0, u "java/lang/Math"), (1, .class_ 6), (1, u "java/lang/Object"), (0, u "<init>"), (0, u "()V"), (89, .class_ 100), (1, u "java/lang/Math$RandomNumberGeneratorHolder"), (20, u "(JJ)J"), (50, u "negativeZeroFloatBits"), (0, u "J"), (2, u "negativeZeroDoubleBits"), (21, u "max"), (46, u "$assertionsDisabled"), (0, u "Z"), (88, u "(II)I"), (2, u "twoToTheDoubleScaleDown"), (0, u "D"), (4, u "twoToTheDoubleScaleUp"), (9, u "E"), (3, u "PI"), (2, u "TAU"), (2, u "DEGREES_TO_RADIANS"), (0, u "RADIANS_TO_DEGREES")] 94

def k2m0 : Method := { name := "<init>", desc := "()V", sig := { parameters := [], returnType := none }, accessFlags := 2, code := none }
def k2c1 : Code := { maxStack := 2, maxLocals := 2, code := jdk_29_method_65_code, exceptionTable := #[], attributes := #[] }
def k2m1 : Method := { name := "max", desc := "(II)I", sig := { parameters := [.int, .int], returnType := some .int }, accessFlags := 9, code := some k2c1 }
def k2c2 : Code := { maxStack := 4, maxLocals := 4, code := jdk_29_method_66_code, exceptionTable := #[], attributes := #[] }
def k2m2 : Method := { name := "max", desc := "(JJ)J", sig := { parameters := [.long, .long], returnType := some .long }, accessFlags := 9, code := some k2c2 }
/-- java/lang/Math -/
def k2 : Class := { plain "java/lang/Math" (some 0) with
  accessFlags := 49
  interfaces := #[]
  cf := some (fileOf pool2 1 #[.nestMembers #[98]] #[{ accessFlags := 2, nameIndex := 7, descriptorIndex := 8, attributes := #[] }, { accessFlags := 9, nameIndex := 198, descriptorIndex := 335, attributes := #[] }, { accessFlags := 9, nameIndex := 198, descriptorIndex := 121, attributes := #[] }] 49 4 #[] #[{ accessFlags := 25, nameIndex := 354, descriptorIndex := 339, attributes := #[] }, { accessFlags := 25, nameIndex := 358, descriptorIndex := 339, attributes := #[] }, { accessFlags := 25, nameIndex := 361, descriptorIndex := 339, attributes := #[] }, { accessFlags := 26, nameIndex := 364, descriptorIndex := 339, attributes := #[] }, { accessFlags := 26, nameIndex := 365, descriptorIndex := 339, attributes := #[] }, { accessFlags := 26, nameIndex := 172, descriptorIndex := 173, attributes := #[] }, { accessFlags := 26, nameIndex := 176, descriptorIndex := 173, attributes := #[] }, { accessFlags := 8, nameIndex := 344, descriptorIndex := 339, attributes := #[] }, { accessFlags := 8, nameIndex := 338, descriptorIndex := 339, attributes := #[] }, { accessFlags := 4120, nameIndex := 245, descriptorIndex := 246, attributes := #[] }])
  fields := #[{ name := "E", type := .double, accessFlags := 25, slot := 0, constantValue := 0 }, { name := "PI", type := .double, accessFlags := 25, slot := 1, constantValue := 0 }, { name := "TAU", type := .double, accessFlags := 25, slot := 2, constantValue := 0 }, { name := "DEGREES_TO_RADIANS", type := .double, accessFlags := 26, slot := 3, constantValue := 0 }, { name := "RADIANS_TO_DEGREES", type := .double, accessFlags := 26, slot := 4, constantValue := 0 }, { name := "negativeZeroFloatBits", type := .long, accessFlags := 26, slot := 5, constantValue := 0 }, { name := "negativeZeroDoubleBits", type := .long, accessFlags := 26, slot := 6, constantValue := 0 }, { name := "twoToTheDoubleScaleUp", type := .double, accessFlags := 8, slot := 7, constantValue := 0 }, { name := "twoToTheDoubleScaleDown", type := .double, accessFlags := 8, slot := 8, constantValue := 0 }, { name := "$assertionsDisabled", type := .boolean, accessFlags := 4120, slot := 9, constantValue := 0 }]
  methods := #[k2m0, k2m1, k2m2]
  instanceTypes := #[]
  staticTypes := #[.double, .double, .double, .double, .double, .long, .long, .double, .double, .boolean]
  resolved := Array.replicate 460 none
  statics := none }

def pool3 : Array CpInfo := pool [(1, .methodref 2 3), (0, .class_ 4), (0, .nameAndType 5 6), (0, u "java/lang/Object"), (0, u "<init>"), (0, u "()V"), (0, .class_ 8), (0, u "java/lang/Record")] 13

def k3c0 : Code := { maxStack := 1, maxLocals := 1, code := jdk_30_method_1_code, exceptionTable := #[], attributes := #[] }
def k3m0 : Method := { name := "<init>", desc := "()V", sig := { parameters := [], returnType := none }, accessFlags := 4, code := some k3c0 }
/-- java/lang/Record -/
def k3 : Class := { plain "java/lang/Record" (some 0) with
  accessFlags := 1057
  interfaces := #[]
  cf := some (fileOf pool3 7 #[] #[{ accessFlags := 4, nameIndex := 5, descriptorIndex := 6, attributes := #[] }] 1057 2 #[] #[])
  fields := #[]
  methods := #[k3m0]
  instanceTypes := #[]
  staticTypes := #[]
  resolved := Array.replicate 22 none
  statics := none }

def pool4 : Array CpInfo := pool [(1, .methodref 2 3), (0, .class_ 4), (0, .nameAndType 5 6), (0, u "java/lang/Record"), (0, u "<init>"), (0, u "()V"), (0, .fieldref 8 9), (0, .class_ 10), (0, .nameAndType 11 12), (0, u "com/example/tidewire/tidewire/rpc/ProviderAddress"), (0, u "host"), (0, u "Ljava/lang/String;"), (0, .fieldref 8 14), (0, .nameAndType 15 16), (0, u "port"), (0, u "I"), (0, .fieldref 8 18), (0, .nameAndType 19 16), (0, u "weight"), (0, .fieldref 8 21), (0, .nameAndType 22 16), (0, u "warmupMillis"), (0, .fieldref 8 24), (0, .nameAndType 25 26), (0, u "startMillis"), (0, u "J"), (3, u "(Ljava/lang/String;IIIJ)V"), (84, u "WEIGHING"), (0, u "Ljava/util/Set;"), (29, .methodref 147 148), (0, .class_ 149), (0, .nameAndType 150 151), (0, u "java/lang/Math"), (0, u "max"), (0, u "(JJ)J"), (33, u "DEFAULT_WEIGHT"), (2, u "DEFAULT_WARMUP_MILLIS"), (9, u "weightAt"), (0, u "(J)I")] 42

def k4c0 : Code := { maxStack := 3, maxLocals := 7, code := prog_29_method_1_code, exceptionTable := #[], attributes := #[] }
def k4m0 : Method := { name := "<init>", desc := "(Ljava/lang/String;IIIJ)V", sig := { parameters := [(.object "java/lang/String"), .int, .int, .int, .long], returnType := none }, accessFlags := 0, code := some k4c0 }
def k4c1 : Code := { maxStack := 6, maxLocals := 5, code := prog_29_method_6_code, exceptionTable := #[], attributes := #[] }
def k4m1 : Method := { name := "weightAt", desc := "(J)I", sig := { parameters := [.long], returnType := some .int }, accessFlags := 0, code := some k4c1 }
/-- com/example/tidewire/tidewire/rpc/ProviderAddress -/
def k4 : Class := { plain "com/example/tidewire/tidewire/rpc/ProviderAddress" (some 3) with
  accessFlags := 48
  interfaces := #[]
  cf := some (fileOf pool4 8 #[] #[{ accessFlags := 0, nameIndex := 5, descriptorIndex := 30, attributes := #[] }, { accessFlags := 0, nameIndex := 198, descriptorIndex := 199, attributes := #[] }] 48 2 #[] #[{ accessFlags := 18, nameIndex := 11, descriptorIndex := 12, attributes := #[] }, { accessFlags := 18, nameIndex := 15, descriptorIndex := 16, attributes := #[] }, { accessFlags := 18, nameIndex := 19, descriptorIndex := 16, attributes := #[] }, { accessFlags := 18, nameIndex := 22, descriptorIndex := 16, attributes := #[] }, { accessFlags := 18, nameIndex := 25, descriptorIndex := 26, attributes := #[] }, { accessFlags := 24, nameIndex := 185, descriptorIndex := 16, attributes := #[] }, { accessFlags := 24, nameIndex := 188, descriptorIndex := 16, attributes := #[] }, { accessFlags := 26, nameIndex := 115, descriptorIndex := 116, attributes := #[] }])
  fields := #[{ name := "host", type := (.object "java/lang/String"), accessFlags := 18, slot := 0, constantValue := 0 }, { name := "port", type := .int, accessFlags := 18, slot := 1, constantValue := 0 }, { name := "weight", type := .int, accessFlags := 18, slot := 2, constantValue := 0 }, { name := "warmupMillis", type := .int, accessFlags := 18, slot := 3, constantValue := 0 }, { name := "startMillis", type := .long, accessFlags := 18, slot := 4, constantValue := 0 }, { name := "DEFAULT_WEIGHT", type := .int, accessFlags := 24, slot := 0, constantValue := 0 }, { name := "DEFAULT_WARMUP_MILLIS", type := .int, accessFlags := 24, slot := 1, constantValue := 0 }, { name := "WEIGHING", type := (.object "java/util/Set"), accessFlags := 26, slot := 2, constantValue := 0 }]
  methods := #[k4m0, k4m1]
  instanceTypes := #[(.object "java/lang/String"), .int, .int, .int, .long]
  staticTypes := #[.int, .int, (.object "java/util/Set")]
  resolved := Array.replicate 242 none
  statics := none }

def pool5 : Array CpInfo := pool [(1, .class_ 2), (0, u "java/io/Serializable"), (0, .class_ 4), (0, u "java/lang/Object")] 2

/-- java/io/Serializable -/
def k5 : Class := { plain "java/io/Serializable" (some 0) with
  accessFlags := 1537
  interfaces := #[]
  cf := some (fileOf pool5 1 #[] #[] 1537 3 #[] #[])
  fields := #[]
  methods := #[]
  instanceTypes := #[]
  staticTypes := #[]
  resolved := Array.replicate 7 none
  statics := none }

def pool6 : Array CpInfo := pool [(1, .class_ 2), (0, u "java/lang/Comparable"), (0, .class_ 4), (0, u "java/lang/Object")] 7

/-- java/lang/Comparable -/
def k6 : Class := { plain "java/lang/Comparable" (some 0) with
  accessFlags := 1537
  interfaces := #[]
  cf := some (fileOf pool6 1 #[] #[] 1537 3 #[] #[])
  fields := #[]
  methods := #[]
  instanceTypes := #[]
  staticTypes := #[]
  resolved := Array.replicate 12 none
  statics := none }

def pool7 : Array CpInfo := pool [(2, .class_ 4), (1, u "java/lang/CharSequence"), (42, .class_ 48), (0, u "java/lang/CharSequence$1CodePointIterator"), (10, .class_ 60), (0, u "java/lang/CharSequence$1CharIterator"), (5, .class_ 67), (0, u "java/lang/Object")] 63

/-- java/lang/CharSequence -/
def k7 : Class := { plain "java/lang/CharSequence" (some 0) with
  accessFlags := 1537
  interfaces := #[]
  cf := some (fileOf pool7 2 #[.nestMembers #[47, 59]] #[] 1537 66 #[] #[])
  fields := #[]
  methods := #[]
  instanceTypes := #[]
  staticTypes := #[]
  resolved := Array.replicate 131 none
  statics := none }

def pool8 : Array CpInfo := pool [(1, .class_ 2), (0, u "java/lang/constant/Constable"), (0, .class_ 4), (0, u "java/lang/Object")] 6

/-- java/lang/constant/Constable -/
def k8 : Class := { plain "java/lang/constant/Constable" (some 0) with
  accessFlags := 1537
  interfaces := #[]
  cf := some (fileOf pool8 1 #[] #[] 1537 3 #[] #[])
  fields := #[]
  methods := #[]
  instanceTypes := #[]
  staticTypes := #[]
  resolved := Array.replicate 11 none
  statics := none }

def pool9 : Array CpInfo := pool [(1, .class_ 2), (0, u "java/lang/constant/ConstantDesc"), (0, .class_ 4), (0, u "java/lang/Object")] 32

/-- java/lang/constant/ConstantDesc -/
def k9 : Class := { plain "java/lang/constant/ConstantDesc" (some 0) with
  accessFlags := 1537
  interfaces := #[]
  cf := some (fileOf pool9 1 #[] #[] 1537 3 #[] #[])
  fields := #[]
  methods := #[]
  instanceTypes := #[]
  staticTypes := #[]
  resolved := Array.replicate 37 none
  statics := none }

def pool10 : Array CpInfo := pool [(2, .class_ 4), (1, u "java/lang/Object"), (0, u "<init>"), (0, u "()V"), (3, .class_ 12), (1, u "java/lang/String"), (0, u "value"), (0, u "[B"), (2, u "coder"), (0, u "B"), (2, u "hash"), (0, u "I"), (2, u "hashIsZero"), (0, u "Z"), (13, u "COMPACT_STRINGS"), (534, .class_ 576), (0, u "java/lang/CharSequence"), (22, u "CASE_INSENSITIVE_ORDER"), (0, u "Ljava/util/Comparator;"), (500, u "serialPersistentFields"), (0, u "[Ljava/io/ObjectStreamField;"), (0, .class_ 1104), (0, u "java/lang/String$CaseInsensitiveComparator"), (1, .class_ 1107), (0, u "java/io/Serializable"), (0, .class_ 1109), (0, u "java/lang/Comparable"), (0, .class_ 1111), (0, u "java/lang/constant/Constable"), (0, .class_ 1113), (0, u "java/lang/constant/ConstantDesc"), (2, u "serialVersionUID"), (0, u "J"), (3, u "REPL"), (0, u "C"), (2, u "LATIN1"), (1, u "UTF16")] 323

def k10m0 : Method := { name := "<init>", desc := "()V", sig := { parameters := [], returnType := none }, accessFlags := 1, code := none }
/-- java/lang/String -/
def k10 : Class := { plain "java/lang/String" (some 0) with
  accessFlags := 49
  interfaces := #[5, 6, 7, 8, 9]
  cf := some (fileOf pool10 10 #[.nestMembers #[1103]] #[{ accessFlags := 1, nameIndex := 5, descriptorIndex := 6, attributes := #[] }] 49 2 #[1106, 1108, 575, 1110, 1112] #[{ accessFlags := 18, nameIndex := 13, descriptorIndex := 14, attributes := #[] }, { accessFlags := 18, nameIndex := 17, descriptorIndex := 18, attributes := #[] }, { accessFlags := 2, nameIndex := 21, descriptorIndex := 22, attributes := #[] }, { accessFlags := 2, nameIndex := 25, descriptorIndex := 26, attributes := #[] }, { accessFlags := 26, nameIndex := 1116, descriptorIndex := 1117, attributes := #[] }, { accessFlags := 24, nameIndex := 40, descriptorIndex := 26, attributes := #[] }, { accessFlags := 26, nameIndex := 1101, descriptorIndex := 1102, attributes := #[] }, { accessFlags := 26, nameIndex := 1121, descriptorIndex := 1122, attributes := #[] }, { accessFlags := 25, nameIndex := 599, descriptorIndex := 600, attributes := #[] }, { accessFlags := 24, nameIndex := 1125, descriptorIndex := 18, attributes := #[] }, { accessFlags := 24, nameIndex := 1127, descriptorIndex := 18, attributes := #[] }])
  fields := #[{ name := "value", type := (.array .byte), accessFlags := 18, slot := 0, constantValue := 0 }, { name := "coder", type := .byte, accessFlags := 18, slot := 1, constantValue := 0 }, { name := "hash", type := .int, accessFlags := 2, slot := 2, constantValue := 0 }, { name := "hashIsZero", type := .boolean, accessFlags := 2, slot := 3, constantValue := 0 }, { name := "serialVersionUID", type := .long, accessFlags := 26, slot := 0, constantValue := 0 }, { name := "COMPACT_STRINGS", type := .boolean, accessFlags := 24, slot := 1, constantValue := 0 }, { name := "serialPersistentFields", type := (.array (.object "java/io/ObjectStreamField")), accessFlags := 26, slot := 2, constantValue := 0 }, { name := "REPL", type := .char, accessFlags := 26, slot := 3, constantValue := 0 }, { name := "CASE_INSENSITIVE_ORDER", type := (.object "java/util/Comparator"), accessFlags := 25, slot := 4, constantValue := 0 }, { name := "LATIN1", type := .byte, accessFlags := 24, slot := 5, constantValue := 0 }, { name := "UTF16", type := .byte, accessFlags := 24, slot := 6, constantValue := 0 }]
  methods := #[k10m0]
  instanceTypes := #[(.array .byte), .byte, .int, .boolean]
  staticTypes := #[.long, .boolean, (.array (.object "java/io/ObjectStreamField")), .char, (.object "java/util/Comparator"), .byte, .byte]
  resolved := Array.replicate 1451 none
  statics := none }

def pool11 : Array CpInfo := pool [(1, u "java/lang/Cloneable"), (0, .class_ 1), (0, u "java/lang/Object"), (0, .class_ 3)] 3

/-- java/lang/Cloneable -/
def k11 : Class := { plain "java/lang/Cloneable" (some 0) with
  accessFlags := 1537
  interfaces := #[]
  cf := some (fileOf pool11 2 #[] #[] 1537 4 #[] #[])
  fields := #[]
  methods := #[]
  instanceTypes := #[]
  staticTypes := #[]
  resolved := Array.replicate 8 none
  statics := none }

/-- the primitive byte -/
def k12 : Class := { plain "byte" none with kind := .primitive 'B', accessFlags := 0x411 }
/-- [B -/
def k13 : Class := { plain "[B" (some 0) with kind := .array 12 .byte, interfaces := #[11, 5], accessFlags := 1041 }

/-- the primitive int -/
def k14 : Class := { plain "int" none with kind := .primitive 'I', accessFlags := 0x411 }
/-- [I -/
def k15 : Class := { plain "[I" (some 0) with kind := .array 14 .int, interfaces := #[11, 5], accessFlags := 1041 }

def heap : Heap := #[]
def classes : Array Class := #[k0, k1, k2, k3, k4, k5, k6, k7, k8, k9, k10, k11, k12, k13, k14, k15]
def interned : List (Array UInt16 × Addr) := []
def slotsUsed : Nat := 0
def theMethod : MethodId := ⟨1, 1⟩
def args0 : Array Value := #[.int 5, .int 7, .long 9, .long 11, .int 3]
def aboutOver (below : List Frame) : State where
  vm := { classes := classes, interned := interned.toArray }
  heap := heap
  slotsUsed := slotsUsed
  threads := #[{ frames := .invoking theMethod args0 :: below }]
def below0 : List Frame := [.native { method := ⟨0, 0⟩, args := #[] }]
def about1 : State := aboutOver below0
def p0 : Program := .bare "" "" ""
def e0 : Env := launch0.env 0 0 0
theorem w_frames : about1.frames = Frame.invoking theMethod args0 :: below0 := rfl
set_option maxRecDepth 65536 in
theorem w_args : argsFit about1.vm theMethod args0 = true := by decide +kernel
set_option maxRecDepth 65536 in
theorem w_heap : heapFits about1 = true := by decide +kernel
set_option maxRecDepth 65536 in
theorem w_runnable : about1.curStatus? = some .runnable := by decide +kernel
set_option maxRecDepth 65536 in
theorem w_alone : about1.alone = true := by decide +kernel
set_option maxRecDepth 65536 in
theorem w_named : about1.methodNamed? x = some theMethod := by decide +kernel
set_option maxRecDepth 65536 in
theorem w_hears : about1.hears theMethod below0 = true := by decide +kernel
set_option maxRecDepth 65536 in
theorem w_ripe : about1.ripe theMethod args0 below0 = true := by decide +kernel
theorem w_running : about1.status = .running := rfl
set_option maxRecDepth 65536 in
theorem w_room : about1.hasRoom e0.platform room_1 = true :=
  launch0.hasRoom_least _ room_1 (by decide +kernel) (by decide +kernel) (by decide +kernel) (by decide +kernel) (by decide +kernel) (by decide +kernel)
theorem allAtoms_all (ts : List Jvm.Cond) (a : Array Jvm.Value) (st : Jvm.State) : (allAtoms ts).before a st = ts.all (fun c => c.before a st) := by
  induction ts with
  | nil => rfl
  | cons c t ih =>
    show (Jvm.Cond.and c (allAtoms t)).before a st = _
    rw [Jvm.Cond.before_and, ih, List.all_cons]
def words1 : List Jvm.Cond := Jvm.Cond.code x code maxLocals ret :: tables_1
/-- a 'code' word, met by the world's own term for the bytes: nothing is compared byte by byte -/
theorem code_word {y : MethodName} {bytes : ByteArray} {mx : Nat} {rt : Option FieldType} {a : Array Value} {s : State} {m : MethodId} {meth : Method} {c : Code} (h1 : s.methodNamed? y = some m) (h2 : s.vm.method? m = some meth) (h3 : meth.code = some c) (h4 : c.code = bytes)
    (h5 : (c.maxLocals == mx && c.exceptionTable.isEmpty && decide (c.maxStack ≤ mostOperands) && decide (meth.sig.returnType = rt) && !meth.locks && decide (parseMethodDescriptor y.desc = some meth.sig)) = true) : (Jvm.Cond.code y bytes mx rt).before a s = true := by
  simp only [Bool.and_eq_true, beq_iff_eq, Bool.not_eq_true', decide_eq_true_eq] at h5
  obtain ⟨⟨⟨⟨⟨g1, g2⟩, g3⟩, g4⟩, g5⟩, g6⟩ := h5
  simp [Cond.before, Cond.holds, Cond.value, h1, h2, h3, h4, g1, g2, g3, g4, g5, g6]
def isCode : Jvm.Cond → Bool
  | .code _ _ _ _ => true
  | _ => false
theorem all_split {L : List Jvm.Cond} {P : Jvm.Cond → Bool} (h1 : L.all (fun c => isCode c || P c) = true) (h2 : ∀ c ∈ L.filter isCode, P c = true) : L.all P = true := by
  refine List.all_eq_true.mpr fun c hc => ?_
  have h := List.all_eq_true.mp h1 c hc
  rcases Bool.eq_false_or_eq_true (isCode c) with hi | hi
  · exact h2 c (List.mem_filter.mpr ⟨hc, hi⟩)
  · simpa [hi] using h
set_option maxRecDepth 65536 in
theorem w_c0 : (Jvm.Cond.code x code maxLocals ret).before args0 about1 = true := code_word (m := ⟨1, 1⟩) (meth := k1m1) (c := k1c1) (by decide +kernel) rfl rfl rfl (by decide +kernel)
set_option maxRecDepth 65536 in
theorem w_c1 : (Jvm.Cond.code ({ cls := "java/lang/Math", name := "max", desc := "(II)I" } : Jvm.MethodName) jdk_29_method_65_code (2 : Nat) (Option.some Jvm.ClassFile.FieldType.int)).before args0 about1 = true := code_word (m := ⟨2, 1⟩) (meth := k2m1) (c := k2c1) (by decide +kernel) rfl rfl rfl (by decide +kernel)
set_option maxRecDepth 65536 in
theorem w_c2 : (Jvm.Cond.code ({ cls := "com/example/tidewire/tidewire/rpc/ProviderAddress", name := "<init>", desc := "(Ljava/lang/String;IIIJ)V" } : Jvm.MethodName) prog_29_method_1_code (7 : Nat) (Option.none : Option Jvm.ClassFile.FieldType)).before args0 about1 = true := code_word (m := ⟨4, 0⟩) (meth := k4m0) (c := k4c0) (by decide +kernel) rfl rfl rfl (by decide +kernel)
set_option maxRecDepth 65536 in
theorem w_c3 : (Jvm.Cond.code ({ cls := "java/lang/Record", name := "<init>", desc := "()V" } : Jvm.MethodName) jdk_30_method_1_code (1 : Nat) (Option.none : Option Jvm.ClassFile.FieldType)).before args0 about1 = true := code_word (m := ⟨3, 0⟩) (meth := k3m0) (c := k3c0) (by decide +kernel) rfl rfl rfl (by decide +kernel)
set_option maxRecDepth 65536 in
theorem w_c4 : (Jvm.Cond.code ({ cls := "java/lang/Object", name := "<init>", desc := "()V" } : Jvm.MethodName) object_method_1_code (1 : Nat) (Option.none : Option Jvm.ClassFile.FieldType)).before args0 about1 = true := code_word (m := ⟨0, 0⟩) (meth := k0m0) (c := k0c0) (by decide +kernel) rfl rfl rfl (by decide +kernel)
set_option maxRecDepth 65536 in
theorem w_c5 : (Jvm.Cond.code ({ cls := "com/example/tidewire/tidewire/rpc/ProviderAddress", name := "weightAt", desc := "(J)I" } : Jvm.MethodName) prog_29_method_6_code (5 : Nat) (Option.some Jvm.ClassFile.FieldType.int)).before args0 about1 = true := code_word (m := ⟨4, 1⟩) (meth := k4m1) (c := k4c1) (by decide +kernel) rfl rfl rfl (by decide +kernel)
set_option maxRecDepth 65536 in
theorem w_c6 : (Jvm.Cond.code ({ cls := "java/lang/Math", name := "max", desc := "(JJ)J" } : Jvm.MethodName) jdk_29_method_66_code (4 : Nat) (Option.some Jvm.ClassFile.FieldType.long)).before args0 about1 = true := code_word (m := ⟨2, 2⟩) (meth := k2m2) (c := k2c2) (by decide +kernel) rfl rfl rfl (by decide +kernel)
def codes1 : List Jvm.Cond := [Jvm.Cond.code x code maxLocals ret, Jvm.Cond.code ({ cls := "java/lang/Math", name := "max", desc := "(II)I" } : Jvm.MethodName) jdk_29_method_65_code (2 : Nat) (Option.some Jvm.ClassFile.FieldType.int), Jvm.Cond.code ({ cls := "com/example/tidewire/tidewire/rpc/ProviderAddress", name := "<init>", desc := "(Ljava/lang/String;IIIJ)V" } : Jvm.MethodName) prog_29_method_1_code (7 : Nat) (Option.none : Option Jvm.ClassFile.FieldType), Jvm.Cond.code ({ cls := "java/lang/Record", name := "<init>", desc := "()V" } : Jvm.MethodName) jdk_30_method_1_code (1 : Nat) (Option.none : Option Jvm.ClassFile.FieldType), Jvm.Cond.code ({ cls := "java/lang/Object", name := "<init>", desc := "()V" } : Jvm.MethodName) object_method_1_code (1 : Nat) (Option.none : Option Jvm.ClassFile.FieldType), Jvm.Cond.code ({ cls := "com/example/tidewire/tidewire/rpc/ProviderAddress", name := "weightAt", desc := "(J)I" } : Jvm.MethodName) prog_29_method_6_code (5 : Nat) (Option.some Jvm.ClassFile.FieldType.int), Jvm.Cond.code ({ cls := "java/lang/Math", name := "max", desc := "(JJ)J" } : Jvm.MethodName) jdk_29_method_66_code (4 : Nat) (Option.some Jvm.ClassFile.FieldType.long)]
set_option maxRecDepth 65536 in
theorem codes_eq : words1.filter isCode = codes1 := rfl
theorem w_codes : ∀ c ∈ words1.filter isCode, c.before args0 about1 = true := by
  rw [codes_eq]
  intro c hc
  simp only [codes1, List.mem_cons, List.not_mem_nil, or_false] at hc
  rcases hc with rfl | rfl | rfl | rfl | rfl | rfl | rfl
  · exact w_c0
  · exact w_c1
  · exact w_c2
  · exact w_c3
  · exact w_c4
  · exact w_c5
  · exact w_c6
set_option maxRecDepth 65536 in
theorem w_t1 : (words1.take 24).all (fun c => isCode c || c.before args0 about1) = true := by decide +kernel
set_option maxRecDepth 65536 in
theorem w_t2 : (words1.drop 24).all (fun c => isCode c || c.before args0 about1) = true := by decide +kernel
theorem w_tables : (allAtoms (Jvm.Cond.code x code maxLocals ret :: tables_1)).before args0 about1 = true := by
  rw [allAtoms_all]
  show words1.all (fun c => c.before args0 about1) = true
  refine all_split ?_ w_codes
  rw [← List.take_append_drop 24 words1, List.all_append, w_t1, w_t2]
  rfl
set_option maxRecDepth 65536 in
theorem w_case : (Jvm.Cond.and given_1 narrow_1).before args0 about1 = true := by decide +kernel
theorem w_applies : (headSpec (Jvm.Cond.code x code maxLocals ret :: tables_1) room_1).applies x e0.platform about1 = true :=
  (Spec.applies_iff w_frames).mpr ⟨w_running, w_runnable, w_alone, w_named, w_hears, w_ripe, w_room, w_tables⟩
theorem atStart : AtStart classFile x code maxLocals ret World_1 tables_1 room_1 Calls_1 rest_1 Pre_1 launch0 p0 e0 about1 theMethod args0 below0 :=
  ⟨lists_1, trivial, launch0.admits_env _ _ _, launch0.least_env, fairChoices_fair.cas, fairChoices_fair.clock, w_frames, w_args, w_heap, w_applies, trivial, trivial, w_case⟩
end start1
theorem witness_1 : WitnessClaimed_1 := ⟨start1.p0, start1.e0, start1.about1, start1.theMethod, start1.args0, start1.below0, start1.atStart⟩
end Jvm.Pilot.@@N@@
