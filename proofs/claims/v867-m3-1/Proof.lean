import JvmDerived
import JvmDerived.Pilot.@@N@@Statement
import JvmDerived.Pilot.@@N@@Code
set_option linter.unusedVariables false
set_option linter.unusedSimpArgs false
@@BLOCK:Masks.lean.txt@@
namespace Jvm.Pilot.@@N@@
open Jvm Jvm.ClassFile Sem Op Lib Jvm.Free Jvm.Stand Jvm.LawKit Jvm.RoadKit Bundle Jvm.Pilot.@@N@@.Jvm.D
section Own
variable {p : Program} {l : Launch} {e : Env} {R : Room} {s : State} {m : MethodId} {args : Array Value} {below : List Frame} {meth : Method} {c : Code} {T : State} {locs : List Loc} {cells slots : Nat} {Z : State} {a0 : Array Value} {h : Heap}
def own_Go (p : Program) (e : Env) (below : List Frame) (Q : Outcome → State → Prop) (T : State) (g : JFrame) : Prop := ∃ s₂ o, Steps p.tables e below (T.setTop g) s₂ ∧ s₂.status = .running ∧ Ended s₂ below o ∧ Q o s₂
theorem own_st {Q : Outcome → State → Prop} {T T' : State} {g g' : JFrame} (h : ∀ t, Steps p.tables e below (T'.setTop g') t → Steps p.tables e below (T.setTop g) t) (k : own_Go p e below Q T' g') : own_Go p e below Q T g := by
  obtain ⟨s₂, o, h1, h2⟩ := k
  exact ⟨s₂, o, h _ h1, h2⟩
theorem own_s {Q : Outcome → State → Prop} {T : State} {g : JFrame} (T' : State) (g' : JFrame) (h : ∀ t, Steps p.tables e below (T'.setTop g') t → Steps p.tables e below (T.setTop g) t) (k : own_Go p e below Q T' g') : own_Go p e below Q T g := own_st h k
abbrev u_ : Slot := .unset
abbrev v_ : Slot := .second
theorem own_cast {Q : Outcome → State → Prop} {T : State} {g g' : JFrame} (q : g = g') (k : own_Go p e below Q T g') : own_Go p e below Q T g := q ▸ k
def own_Post (Qv : Option Value → Heap → List Loc → Prop) (kc ks : Nat) (U : State) (o : Outcome) (U' : State) : Prop := ∃ v L, o = .returned v ∧ Qv v U'.heap L ∧ FrameEnd U o U' L kc ks
def own_Met (l : Launch) (Z : State) (y : MethodName) (bytes : ByteArray) (maxL : Nat) (ret : Option FieldType) (ws : List Jvm.Cond) (rm : Room) (h0 : Heap) (as' : Array Value) (Qv : Option Value → Heap → List Loc → Prop) (kc ks : Nat) : Prop :=
  MetFree l y (head1 (Jvm.Cond.code y bytes maxL ret :: ws) rm) (fun a U => a = as' ∧ Z.Warmed39 U.vm ∧ U.heap = h0) (fun _ _ _ _ _ => True) (fun _ U o U' => own_Post Qv kc ks U o U')
theorem own_start {y : MethodName} {bytes : ByteArray} {maxL : Nat} {ret : Option FieldType} {ws : List Jvm.Cond} {rm : Room} {h0 : Heap} {as' : Array Value} {Qv : Option Value → Heap → List Loc → Prop} {kc ks : Nat} (hpl : plainFor y = true)
    (body : ∀ (p : Program) (e : Env) (s : State) (m : MethodId) (below : List Frame) (meth : Method) (c : Code) (s₁ : State), Stand p l e rm s m as' below meth c s₁ [] 0 0 → p.tables.exec = Jvm.exec → Z.Warmed39 s.vm → c.code = bytes → c.maxLocals = maxL → meth.sig.returnType = ret → meth.locks = false → s.vm.findClass y.cls = some m.cls → meth.name = y.name → s₁.heap = h0 → own_Go p e below (own_Post Qv kc ks s) s₁ (entryFrame m as' maxL)) :
    own_Met l Z y bytes maxL ret ws rm h0 as' Qv kc ks := by
  refine MetFree.of_bodySF hpl hisR ?_
  intro p e s m args below meth c s₁ Bd hml0 hP hK
  obtain ⟨rfl, hZ, hh⟩ := hP
  exact body p e s m below meth c s₁ (Stand.of_body Bd) Bd.exec hZ Bd.bytes hml0 Bd.returns Bd.notSynchronized (findClass_of_methodNamed Bd.named) (name_of_methodNamed Bd.named Bd.method).1 (by rw [← hh, Bd.state]; rfl)
def own_PostW (Qv : Option Value → Heap → Vm → List Loc → Prop) (kc ks : Nat) (U : State) (o : Outcome) (U' : State) : Prop := ∃ v L, o = .returned v ∧ Qv v U'.heap U'.vm L ∧ ReturnedEndW U o U' L kc ks
def own_MetW (l : Launch) (Z : State) (y : MethodName) (bytes : ByteArray) (maxL : Nat) (ret : Option FieldType) (ws : List Jvm.Cond) (rm : Room) (h0 : Heap) (J : Vm → Prop) (as' : Array Value) (Qv : Option Value → Heap → Vm → List Loc → Prop) (kc ks : Nat) : Prop :=
  MetFree l y (head1 (Jvm.Cond.code y bytes maxL ret :: ws) rm) (fun a U => a = as' ∧ Z.Warmed39 U.vm ∧ U.heap = h0 ∧ J U.vm) (fun _ _ _ _ _ => True) (fun _ U o U' => own_PostW Qv kc ks U o U')
theorem own_startW {y : MethodName} {bytes : ByteArray} {maxL : Nat} {ret : Option FieldType} {ws : List Jvm.Cond} {rm : Room} {h0 : Heap} {J : Vm → Prop} {as' : Array Value} {Qv : Option Value → Heap → Vm → List Loc → Prop} {kc ks : Nat} (hpl : plainFor y = true)
    (body : ∀ (p : Program) (e : Env) (s : State) (m : MethodId) (below : List Frame) (meth : Method) (c : Code) (s₁ : State), Stand p l e rm (s.setVm s.vm) m as' below meth c s₁ [] 0 0 → p.tables.exec = Jvm.exec → Z.Warmed39 s.vm → c.code = bytes → c.maxLocals = maxL → meth.sig.returnType = ret → meth.locks = false → s.vm.findClass y.cls = some m.cls → meth.name = y.name → s₁.heap = h0 → s.Since s.vm 0 → s.heap = h0 → J s.vm → own_Go p e below (own_PostW Qv kc ks s) s₁ (entryFrame m as' maxL)) :
    own_MetW l Z y bytes maxL ret ws rm h0 J as' Qv kc ks := by
  refine MetFree.of_bodySF hpl hisR ?_
  intro p e s m args below meth c s₁ Bd hml0 hP hK
  obtain ⟨rfl, hZ, hh, hJ⟩ := hP
  exact body p e s m below meth c s₁ (Stand.of_body Bd) Bd.exec hZ Bd.bytes hml0 Bd.returns Bd.notSynchronized (findClass_of_methodNamed Bd.named) (name_of_methodNamed Bd.named Bd.method).1 (by rw [← hh, Bd.state]; rfl) ((State.WarmedH.refl s).since 0) hh hJ
def own_End (e : Env) (below : List Frame) (m : MethodId) (T : State) (v : Option Value) (P : Outcome → State → Prop) : Prop := ∃ fs, (∀ (f : JFrame) (acts : List Action), f.method = m → f.locked = none → f.entered = [] → (doReturn e (T.setTop f) acts v).1 = T.setFrames fs) ∧ (T.setFrames fs).status = .running ∧ Ended (T.setFrames fs) below (.returned v) ∧ P (.returned v) (T.setFrames fs)
theorem own_end {Qv : Option Value → Heap → List Loc → Prop} {kc ks : Nat} (X : Stand p l e R s m args below meth c T locs cells slots) {v : Option Value} (hv : meth.sig.returnType = none → v = none) (hlocks : meth.locks = false) (hc : cells ≤ kc) (hs : slots ≤ ks) (eT : T.heap = h) (q : Qv v h locs) : own_End e below m T v (own_Post Qv kc ks s) := by
  obtain ⟨fs, hr, hrun, hended, hW, hsame⟩ := X.leave hv hlocks
  exact ⟨fs, hr, hrun, hended, _, _, rfl, (by show Qv v T.heap locs; rw [eT]; exact q), ⟨_, rfl⟩, hW, hsame.mono hc hs⟩
theorem own_endW {Qv : Option Value → Heap → Vm → List Loc → Prop} {kc ks : Nat} {vm1 : Vm} (X : Stand p l e R (s.setVm vm1) m args below meth c T locs cells slots) {n : Nat} (hS : s.Since vm1 n) {v : Option Value} (hv : meth.sig.returnType = none → v = none) (hlocks : meth.locks = false) (hc : cells ≤ kc) (hs : slots ≤ ks) (eT : T.heap = h) (hk : n ≤ h.size) (q : ∀ vm', (s.setVm vm1).WarmedH vm' → Qv v h vm' locs) : own_End e below m T v (own_PostW Qv kc ks s) := by
  obtain ⟨fs, hr, hrun, hended, hE⟩ := X.leaveW hS (by rw [eT]; exact hk) hv hlocks
  exact ⟨fs, hr, hrun, hended, _, _, rfl, (by show Qv v T.heap T.vm locs; rw [eT]; exact q _ X.warmed), hE.1, hE.2.1, hE.2.2.1, hE.2.2.2.mono hc hs⟩
theorem own_fin {P : Outcome → State → Prop} {v : Option Value} {g : JFrame} (E : own_End e below m T v P) (st : ∀ fs, (∀ (f : JFrame) (acts : List Action), f.method = m → f.locked = none → f.entered = [] → (doReturn e (T.setTop f) acts v).1 = T.setFrames fs) → Steps p.tables e below (T.setTop g) (T.setFrames fs)) : own_Go p e below P T g := by
  obtain ⟨fs, hr, hrun, hended, q⟩ := E
  exact ⟨_, _, st fs hr, hrun, hended, q⟩
theorem own_some {t : FieldType} {v : Option Value} (hret : meth.sig.returnType = some t) : meth.sig.returnType = none → v = none := fun h => by rw [hret] at h; cases h
theorem own_finV {P : Outcome → State → Prop} (X : Stand p l e R s m args below meth c T locs cells slots) (hx : p.tables.exec = Jvm.exec) (hret : meth.sig.returnType = none) {pc : Nat} {Ls : Array Slot} (hd : decode c.code pc = .ok (.return_, 1)) (E : own_End e below m T none P) : own_Go p e below P T (mkF m pc Ls []) :=
  own_fin E (fun fs hr => X.returnOut hx hret hd hr)
theorem own_finX {P : Outcome → State → Prop} (X : Stand p l e R s m args below meth c T locs cells slots) (hx : p.tables.exec = Jvm.exec) {t : FieldType} (hret : meth.sig.returnType = some t) {pc : Nat} {Ls : Array Slot} {w : Value} {i : Instr} {rest : List Value} (hn : narrow t w = w)
    (hi : (i = .ireturn ∧ (t = .int ∨ t = .boolean ∨ t = .byte ∨ t = .char ∨ t = .short) ∧ ∃ z, w = .int z) ∨ (i = .lreturn ∧ t = .long ∧ ∃ z, w = .long z) ∨ (i = .dreturn ∧ t = .double ∧ ∃ z, w = .double z) ∨ (i = .freturn ∧ t = .float ∧ ∃ z, w = .float z) ∨ (i = .areturn ∧ t.isReference = true ∧ w.isRef = true))
    (hd : decode c.code pc = .ok (i, 1)) (E : own_End e below m T (some w) P) : own_Go p e below P T (mkF m pc Ls (w :: rest)) :=
  own_fin E (fun fs hr => retOut X hx hret hn hi hd hr)
theorem own_finI {P : Outcome → State → Prop} (X : Stand p l e R s m args below meth c T locs cells slots) (hx : p.tables.exec = Jvm.exec) (hret : meth.sig.returnType = some .int) {pc : Nat} {Ls : Array Slot} {z : Int32} {rest : List Value} (hd : decode c.code pc = .ok (.ireturn, 1)) (E : own_End e below m T (some (.int z)) P) : own_Go p e below P T (mkF m pc Ls (.int z :: rest)) :=
  own_finX X hx hret rfl (Or.inl ⟨rfl, Or.inl rfl, _, rfl⟩) hd E
theorem own_finL {P : Outcome → State → Prop} (X : Stand p l e R s m args below meth c T locs cells slots) (hx : p.tables.exec = Jvm.exec) (hret : meth.sig.returnType = some .long) {pc : Nat} {Ls : Array Slot} {z : Int64} {rest : List Value} (hd : decode c.code pc = .ok (.lreturn, 1)) (E : own_End e below m T (some (.long z)) P) : own_Go p e below P T (mkF m pc Ls (.long z :: rest)) :=
  own_finX X hx hret rfl (Or.inr (Or.inl ⟨rfl, rfl, _, rfl⟩)) hd E
theorem own_finD {P : Outcome → State → Prop} (X : Stand p l e R s m args below meth c T locs cells slots) (hx : p.tables.exec = Jvm.exec) (hret : meth.sig.returnType = some .double) {pc : Nat} {Ls : Array Slot} {z : UInt64} {rest : List Value} (hd : decode c.code pc = .ok (.dreturn, 1)) (E : own_End e below m T (some (.double z)) P) : own_Go p e below P T (mkF m pc Ls (.double z :: rest)) :=
  own_finX X hx hret rfl (Or.inr (Or.inr (Or.inl ⟨rfl, rfl, _, rfl⟩))) hd E
theorem own_finA {P : Outcome → State → Prop} (X : Stand p l e R s m args below meth c T locs cells slots) (hx : p.tables.exec = Jvm.exec) {t : FieldType} (hret : meth.sig.returnType = some t) (ht : t.isReference = true) {pc : Nat} {Ls : Array Slot} {w : Value} {rest : List Value} (hw : w.isRef = true) (hd : decode c.code pc = .ok (.areturn, 1)) (E : own_End e below m T (some w) P) : own_Go p e below P T (mkF m pc Ls (w :: rest)) :=
  own_finX X hx hret (by rcases ref_cases hw with rfl | ⟨z, rfl⟩ <;> cases t <;> first | rfl | cases ht) (Or.inr (Or.inr (Or.inr (Or.inr ⟨rfl, ht, hw⟩)))) hd E
theorem own_finZ {P : Outcome → State → Prop} (X : Stand p l e R s m args below meth c T locs cells slots) (hx : p.tables.exec = Jvm.exec) {t : FieldType} (hret : meth.sig.returnType = some t) (ht : t = .boolean ∨ t = .byte ∨ t = .char ∨ t = .short) {pc : Nat} {Ls : Array Slot} {z z' : Int32} {rest : List Value} (hz : nar t z = z') (hd : decode c.code pc = .ok (.ireturn, 1)) (E : own_End e below m T (some (.int z')) P) : own_Go p e below P T (mkF m pc Ls (.int z :: rest)) :=
  own_fin E (fun fs hr => by subst hz; exact retN X hx hret ht hd hr)
theorem own_callS (X : Stand p l e R s m args below meth c T locs cells slots) (hx : p.tables.exec = Jvm.exec) (hZ : Z.Warmed39 s.vm) {own : String} {index : Nat} {y : MethodName} {bytes : ByteArray} {maxL : Nat} {ret : Option FieldType} {rm : Room} {W : Nat} {Q : Option Value → Heap → List Loc → Prop} {argsL rest : List Value} {as' : Array Value}
    (hown : s.vm.findClass own = some m.cls) (w1 : (Cond.methodLink own index y).before a0 Z = true) (w2 : (Cond.static y).before a0 Z = true) (w3 : (Cond.initialized y.cls).before a0 Z = true) (w4 : (Cond.code y bytes maxL ret).before a0 Z = true) (hy : y.cls ≠ "java/lang/invoke/MethodHandle" ∧ y.cls ≠ "java/lang/invoke/VarHandle")
    (hM : own_Met l Z y bytes maxL ret [] rm h as' Q rm.cells rm.slots) (hf : rm.frames + 1 ≤ R.frames) (hl : W + (maxL + 11) + rm.locals ≤ R.locals) {g : JFrame} (hg : g.method = m) (hsz : g.locals.size = c.maxLocals) (has : argsL.toArray = as') (hlen : ∀ sig, parseMethodDescriptor y.desc = some sig → argsL.length = sig.parameters.length) (hstk : g.stack = argsL.reverse ++ rest) (hW : 2 * g.monitorRoom + (rest.map fun v => v.category).sum ≤ W)
    (hd : decode c.code g.pc = .ok (.invokestatic index, 3)) (eT : T.heap = h) (hc : cells + rm.cells ≤ R.cells) (hs : slots + rm.slots ≤ R.slots) :
    ∃ v T' L, Stand p l e R s m args below meth c T' (locs ++ L) (cells + rm.cells) (slots + rm.slots) ∧ Q v T'.heap L ∧ ∀ target, Steps p.tables e below (T'.setTop { g with pc := g.pc + 3, stack := v.toList ++ rest }) target → Steps p.tables e below (T.setTop g) target := by
  obtain ⟨v, _, ⟨T', L', k', n'⟩, -, X', ⟨Lc, hQ, l', y', z'⟩, st⟩ := Jvm.LawKit.callS X hx (y := y) hown (mvT hZ w1) (mvT hZ w2) (mvT hZ w3) (mvT hZ w4) hy (backOf (W := W) hM hZ w4 w3 hf hl) (g := g) hg hsz (argsL := argsL) (rest := rest) hlen hstk hW hd (fun _ _ => ⟨has, eT, hc, hs⟩)
  dsimp only [Pt.U, Pt.locs, Pt.cells, Pt.slots] at X' l' y' z' st hQ
  subst l' y' z'
  exact ⟨v, T', Lc, X', hQ, st⟩
theorem own_callI (X : Stand p l e R s m args below meth c T locs cells slots) (hx : p.tables.exec = Jvm.exec) (hZ : Z.Warmed39 s.vm) {own : String} {index : Nat} {y : MethodName} {bytes : ByteArray} {maxL : Nat} {rm : Room} {W : Nat} {Q : Option Value → Heap → List Loc → Prop} {a : Addr} {argsL rest : List Value} {as' : Array Value} (hyn : y.name = "<init>")
    (hown : s.vm.findClass own = some m.cls) (w1 : (Cond.methodLink own index y).before a0 Z = true) (w2 : (Cond.instanceMethod y).before a0 Z = true) (w3 : (Cond.initialized y.cls).before a0 Z = true) (w4 : (Cond.code y bytes maxL none).before a0 Z = true) (hy : y.cls ≠ "java/lang/invoke/MethodHandle" ∧ y.cls ≠ "java/lang/invoke/VarHandle")
    (hM : own_Met l Z y bytes maxL none [] rm h as' Q rm.cells rm.slots) (hf : rm.frames + 1 ≤ R.frames) (hl : W + (maxL + 11) + rm.locals ≤ R.locals) {g : JFrame} (hg : g.method = m) (hsz : g.locals.size = c.maxLocals) (has : (Value.ref a :: argsL).toArray = as') (hlen : ∀ sig, parseMethodDescriptor y.desc = some sig → argsL.length = sig.parameters.length) (hstk : g.stack = argsL.reverse ++ .ref a :: rest) (hW : 2 * g.monitorRoom + (rest.map fun v => v.category).sum ≤ W)
    (hd : decode c.code g.pc = .ok (.invokespecial index, 3)) (eT : T.heap = h) (hc : cells + rm.cells ≤ R.cells) (hs : slots + rm.slots ≤ R.slots) :
    ∃ v T' L, Stand p l e R s m args below meth c T' (locs ++ L) (cells + rm.cells) (slots + rm.slots) ∧ Q v T'.heap L ∧ ∀ target, Steps p.tables e below (T'.setTop { g with pc := g.pc + 3, stack := v.toList ++ rest }) target → Steps p.tables e below (T.setTop g) target := by
  obtain ⟨v, _, ⟨T', L', k', n'⟩, -, X', ⟨Lc, hQ, l', y', z'⟩, st⟩ := X.specialBack hx (y := y) hyn hown (mvT hZ w1) (mvT hZ w2) (mvT hZ w4) hy (backOf (W := W) hM hZ w4 w3 hf hl) (g := g) hg hsz (Steps.refl _) (a := a) (argsL := argsL) (rest := rest) hlen hstk hW hd (fun _ _ => ⟨has, eT, hc, hs⟩)
  dsimp only [Pt.U, Pt.locs, Pt.cells, Pt.slots] at X' l' y' z' st hQ
  subst l' y' z'
  exact ⟨v, T', Lc, X', hQ, fun t k => st.trans k⟩
theorem own_callV (X : Stand p l e R s m args below meth c T locs cells slots) (hx : p.tables.exec = Jvm.exec) (hZ : Z.Warmed39 s.vm) {own C : String} {index : Nat} {y z : MethodName} {bytes : ByteArray} {maxL : Nat} {ret : Option FieldType} {rm : Room} {W : Nat} {Q : Option Value → Heap → List Loc → Prop} {a : Addr} {argsL rest : List Value} {as' : Array Value}
    (hown : s.vm.findClass own = some m.cls) (w1 : (Cond.methodLink own index y).before a0 Z = true) (w2 : (Cond.declares y).before a0 Z = true) (hnf : NotFace s y) (wsel : (Cond.selects C y z).before a0 Z = true) (wi : (Cond.instanceMethod z).before a0 Z = true) (w3 : (Cond.initialized z.cls).before a0 Z = true) (w4 : (Cond.code z bytes maxL ret).before a0 Z = true) (hy : y.cls ≠ "java/lang/invoke/MethodHandle" ∧ y.cls ≠ "java/lang/invoke/VarHandle")
    (hM : own_Met l Z z bytes maxL ret [] rm h as' Q rm.cells rm.slots) (hf : rm.frames + 1 ≤ R.frames) (hl : W + (maxL + 11) + rm.locals ≤ R.locals) (E : Exa Z h a C) {g : JFrame} (hg : g.method = m) (hsz : g.locals.size = c.maxLocals) (has : (Value.ref a :: argsL).toArray = as') (hlen : ∀ sig, parseMethodDescriptor y.desc = some sig → argsL.length = sig.parameters.length) (hstk : g.stack = argsL.reverse ++ .ref a :: rest) (hW : 2 * g.monitorRoom + (rest.map fun v => v.category).sum ≤ W)
    (hd : decode c.code g.pc = .ok (.invokevirtual index, 3)) (eT : T.heap = h) (hc : cells + rm.cells ≤ R.cells) (hs : slots + rm.slots ≤ R.slots) :
    ∃ v T' L, Stand p l e R s m args below meth c T' (locs ++ L) (cells + rm.cells) (slots + rm.slots) ∧ Q v T'.heap L ∧ ∀ target, Steps p.tables e below (T'.setTop { g with pc := g.pc + 3, stack := v.toList ++ rest }) target → Steps p.tables e below (T.setTop g) target := by
  obtain ⟨cq, kq, qa, qb, qc⟩ := isOf hZ eT E
  obtain ⟨v, _, ⟨T', L', k', n'⟩, -, X', ⟨Lc, hQ, l', y', z'⟩, st⟩ := X.virtualBack hx (y := y) (z := z) hown (mvT hZ w1) (mvT hZ w2) hnf (mvT hZ wsel) (mvT hZ wi) hy (backOf (W := W) hM hZ w4 w3 hf hl) qa qc (g := g) hg hsz (Steps.refl _) (argsL := argsL) (rest := rest) hlen hstk hW hd (fun _ _ => ⟨has, eT, hc, hs⟩)
  dsimp only [Pt.U, Pt.locs, Pt.cells, Pt.slots] at X' l' y' z' st hQ
  subst l' y' z'
  exact ⟨v, T', Lc, X', hQ, fun t k => st.trans k⟩
theorem own_callP (X : Stand p l e R s m args below meth c T locs cells slots) (hx : p.tables.exec = Jvm.exec) (hZ : Z.Warmed39 s.vm) {own C : String} {index : Nat} {y : MethodName} {bytes : ByteArray} {maxL : Nat} {ret : Option FieldType} {rm : Room} {W : Nat} {Q : Option Value → Heap → List Loc → Prop} {a : Addr} {argsL rest : List Value} {as' : Array Value}
    (hown : s.vm.findClass own = some m.cls) (w1 : (Cond.methodLink own index y).before a0 Z = true) (wi : (Cond.instanceMethod y).before a0 Z = true) {kk : Nat} (wn : (Cond.instantiable y.cls kk).before a0 Z = true) (wp : (Cond.privateMethod y).before a0 Z = true) (w3 : (Cond.initialized y.cls).before a0 Z = true) (w4 : (Cond.code y bytes maxL ret).before a0 Z = true) (hy : y.cls ≠ "java/lang/invoke/MethodHandle" ∧ y.cls ≠ "java/lang/invoke/VarHandle")
    (hM : own_Met l Z y bytes maxL ret [] rm h as' Q rm.cells rm.slots) (hf : rm.frames + 1 ≤ R.frames) (hl : W + (maxL + 11) + rm.locals ≤ R.locals) (E : Exa Z h a C) {g : JFrame} (hg : g.method = m) (hsz : g.locals.size = c.maxLocals) (has : (Value.ref a :: argsL).toArray = as') (hlen : ∀ sig, parseMethodDescriptor y.desc = some sig → argsL.length = sig.parameters.length) (hstk : g.stack = argsL.reverse ++ .ref a :: rest) (hW : 2 * g.monitorRoom + (rest.map fun v => v.category).sum ≤ W)
    (hd : decode c.code g.pc = .ok (.invokevirtual index, 3)) (eT : T.heap = h) (hc : cells + rm.cells ≤ R.cells) (hs : slots + rm.slots ≤ R.slots) :
    ∃ v T' L, Stand p l e R s m args below meth c T' (locs ++ L) (cells + rm.cells) (slots + rm.slots) ∧ Q v T'.heap L ∧ ∀ target, Steps p.tables e below (T'.setTop { g with pc := g.pc + 3, stack := v.toList ++ rest }) target → Steps p.tables e below (T.setTop g) target := by
  obtain ⟨cq, q1, q2⟩ := E.cell
  obtain ⟨ci, ki, hi1, hi2, -, hi4, -⟩ := Cond.instantiable_spec (mvT (args := args) hZ wn)
  have hsel : (Cond.selects y.cls y y).before args s = true := selects_self_of_private hi1 hi2 (by simp only [Bool.or_eq_false_iff] at hi4; exact hi4.1) (Cond.privateMethod_at (mvP hZ wp (args := #[]))) (mvT hZ wi) hy
  obtain ⟨v, _, ⟨T', L', k', n'⟩, -, X', ⟨Lc, hQ, l', y', z'⟩, st⟩ := X.privateBack hx (y := y) hown (mvT hZ w1) (mvT hZ wi) hsel (Cond.privateMethod_at (mvP hZ wp (args := #[]))) (mvT hZ w4) hy (backOf (W := W) hM hZ w4 w3 hf hl) (g := g) hg hsz (Steps.refl _) (a := a) (by rw [eT]; exact q1) q2 (argsL := argsL) (rest := rest) hlen hstk hW hd (fun _ _ => ⟨has, eT, hc, hs⟩)
  dsimp only [Pt.U, Pt.locs, Pt.cells, Pt.slots] at X' l' y' z' st hQ
  subst l' y' z'
  exact ⟨v, T', Lc, X', hQ, fun t k => st.trans k⟩
end Own

theorem own_h {a0 : Array Value} {Z : State} (hw : ∀ d ∈ tables_1, d.before a0 Z = true) (i : Nat) {d : Jvm.Cond} (h : tables_1[i]? = some d) : d.before a0 Z = true := hw d (List.mem_of_getElem? h)
theorem own_at {T : State} {h : Heap} {a : Addr} {c : Cell} (eT : T.heap = h) (q : h[a]? = some c) : T.heap[a]? = some c := by rw [eT]; exact q
def own_b (b : Bool) : Int32 := cond b 1 0
theorem own_b0 {b : Bool} (h : b = false) : own_b b = 0 := by subst h; rfl
theorem own_b1 {b : Bool} (h : ¬ b = false) : ¬ own_b b = 0 := by cases b; exact absurd rfl h; decide
theorem own_narb (b : Bool) : nar .boolean (own_b b) = own_b b := by cases b <;> rfl
theorem own_lclt {a b : Int64} (h : a < b) : lcmpW a b < 0 := by rw [lcW]; exact (lc_lt a b).mpr h
theorem own_lcltN {a b : Int64} (h : ¬ a < b) : ¬ lcmpW a b < 0 := fun q => by rw [lcW] at q; exact h ((lc_lt a b).mp q)
theorem own_lcgt {a b : Int64} (h : b < a) : 0 < lcmpW a b := by rw [lcW]; exact (lc_gt a b).mpr h
theorem own_lcgtN {a b : Int64} (h : ¬ b < a) : ¬ 0 < lcmpW a b := fun q => by rw [lcW] at q; exact h ((lc_gt a b).mp q)
theorem own_lceq {a b : Int64} (h : a = b) : lcmpW a b = 0 := by rw [lcW]; exact (lc_eq a b).mpr h
theorem own_lceqN {a b : Int64} (h : ¬ a = b) : ¬ lcmpW a b = 0 := fun q => by rw [lcW] at q; exact h ((lc_eq a b).mp q)
theorem own_insKeep {Z : State} {h h' : Heap} {a : Addr} {C : String} {bo : Bool} {ws : List Addr} (F : Ins Z h a C bo) (K : Keep h h' ws) : Ins Z h' a C bo := by
  obtain ⟨cell, cT, h1, h2, h3⟩ := F
  obtain ⟨c', q1, q2, q3, -⟩ := K.2.2 _ _ h1
  exact ⟨c', cT, q1, h2, by rw [q2, q3]; exact h3⟩
theorem own_staKeep {Z : State} {h h' : Heap} {C n d : String} {v : Value} (F : Sta Z h C n d v) (K : Keep h h' []) : Sta Z h' C n d v := by
  obtain ⟨cf, i, k, f, st, cell, h1, h2, h3, h4, h5, r⟩ := F
  exact ⟨cf, i, k, f, st, cell, h1, h2, h3, h4, K.2.1 _ _ h5 nin0, r⟩
theorem own_staKeepW {Z : State} {h h' : Heap} {C n d : String} {v : Value} {ws : List Addr} (F : Sta Z h C n d v) (K : Keep h h' ws) (hw : ∀ x ∈ ws, ∀ cell : Cell, h[x]? = some cell → cell.vm.isStatics = false) : Sta Z h' C n d v := by
  obtain ⟨cf, i, k, f, st, cell, h1, h2, h3, h4, h5, h6, r⟩ := F
  exact ⟨cf, i, k, f, st, cell, h1, h2, h3, h4, K.2.1 _ _ h5 (fun q => by rw [hw _ q _ h5] at h6; cases h6), h6, r⟩
theorem own_narR {t : FieldType} {w : Value} (hw : w.isRef = true) : narrow t w = w := by rcases ref_cases hw with rfl | ⟨z, rfl⟩ <;> cases t <;> rfl
theorem own_fitR {n : String} {w : Value} (hw : w.isRef = true) : fits (.object n) w = true := by rcases ref_cases hw with rfl | ⟨z, rfl⟩ <;> rfl
theorem own_len {p : Program} {l : Launch} {e : Env} {R : Room} {s : State} {m : MethodId} {args : Array Value} {below : List Frame} {meth : Method} {c : Code} {T : State} {locs : List Loc} {cells slots : Nat} {Z : State} {h : Heap} (X : Stand p l e R s m args below meth c T locs cells slots) (hx : p.tables.exec = Jvm.exec) (hZ : Z.Warmed39 s.vm) (eT : T.heap = h) {a : Addr} {cl : Cell} {ty : FieldType} {z : Int32} (A : Arr Z h a cl ty) (S : cl.slots.size = z.toNatClampNeg) (hz : ¬ z < 0)
    {g : JFrame} (hg : g.method = m) {rest : List Value} (hs : g.stack = .ref a :: rest) (hd : decode c.code g.pc = .ok (.arraylength, 1)) {target : State} (k : Steps p.tables e below (T.setTop { g with pc := g.pc + 1, stack := .int z :: rest }) target) : Steps p.tables e below (T.setTop g) target := by
  refine X.arraylength hx (by rw [eT]; exact A.1) (State.isArrayOf_alike hZ.alike A.2.1) (g := g) hg hs hd _ ?_
  rw [len_of S hz]
  exact k
section OwnW
variable {p : Program} {l : Launch} {e : Env} {R : Room} {s : State} {vm0 : Vm} {m : MethodId} {args : Array Value} {below : List Frame} {meth : Method} {c : Code} {T : State} {locs : List Loc} {cells slots : Nat} {Z : State} {a0 : Array Value} {h : Heap}
theorem own_backS {y : MethodName} {bytes : ByteArray} {maxL : Nat} {ret : Option FieldType} {rm : Room} {len W : Nat} {J : Vm → Prop} {as' : Array Value} {Q : Option Value → Heap → Vm → List Loc → Prop} (hM : own_MetW l Z y bytes maxL ret [] rm h J as' Q rm.cells rm.slots)
    (hZ : Z.Warmed39 s.vm) (wc : (Cond.code y bytes maxL ret).before a0 Z = true) (wz : (Cond.initialized y.cls).before a0 Z = true) (hf : rm.frames + 1 ≤ R.frames) (hl : W + (maxL + 11) + rm.locals ≤ R.locals) :
    BackS l R p e below s args y len W (fun A a => a = as' ∧ A.U.heap = h ∧ J A.U.vm ∧ A.cells + rm.cells ≤ R.cells ∧ A.slots + rm.slots ≤ R.slots)
      (fun A _ v B => ∃ L, Q v B.U.heap B.U.vm L ∧ B.locs = A.locs ++ L ∧ B.cells = A.cells + rm.cells ∧ B.slots = A.slots + rm.slots) :=
  BackS.of_freeW (bytes := bytes) (maxL := maxL) (ret := ret) (E := fun _ _ o t L k n => k = rm.cells ∧ n = rm.slots ∧ ∃ v, o = .returned v ∧ Q v t.heap t.vm L) hM hf hl
    (fun m meth c A a Y hp => have hU : Z.Warmed39 A.U.vm := wtrans hZ Y.warmed
      ⟨by show (Cond.and _ .tt).before a A.U = true; rw [Cond.before_and, mv hU wc]; rfl, mv hU wc, mv hU wz, hp.2.2.2.1, hp.2.2.2.2⟩)
    (fun m meth c A a g mk Y hp => ⟨hp.1, wtrans hZ Y.warmed, hp.2.1, hp.2.2.1⟩) (fun _ _ _ _ _ _ _ _ _ => trivial)
    (fun _ _ _ _ ⟨v, L, h1, h2, h3⟩ => ⟨L, _, _, h3, rfl, rfl, v, h1, h2⟩)
    (fun m meth c A a g mk v t L k n Y hp _ _ ⟨e1, e2, v', e3, e4⟩ => by cases e3; subst e1 e2; exact ⟨L, e4, rfl, rfl, rfl⟩)
theorem own_callSW (X : Stand p l e R (s.setVm vm0) m args below meth c T locs cells slots) (hx : p.tables.exec = Jvm.exec) (hZ : Z.Warmed39 vm0) {k0 : Nat} (hS : s.Since vm0 k0) (hk : k0 ≤ h.size) {own : String} {index : Nat} {y : MethodName} {bytes : ByteArray} {maxL : Nat} {ret : Option FieldType} {rm : Room} {W : Nat} {J : Vm → Prop} {Q : Option Value → Heap → Vm → List Loc → Prop} {argsL rest : List Value} {as' : Array Value}
    (hown : vm0.findClass own = some m.cls) (w1 : (Cond.methodLink own index y).before a0 Z = true) (w2 : (Cond.static y).before a0 Z = true) (w3 : (Cond.initialized y.cls).before a0 Z = true) (w4 : (Cond.code y bytes maxL ret).before a0 Z = true) (hy : y.cls ≠ "java/lang/invoke/MethodHandle" ∧ y.cls ≠ "java/lang/invoke/VarHandle")
    (hM : own_MetW l Z y bytes maxL ret [] rm h J as' Q rm.cells rm.slots) (hJ : ∀ vm', (s.setVm vm0).WarmedH vm' → J vm') (hf : rm.frames + 1 ≤ R.frames) (hl : W + (maxL + 11) + rm.locals ≤ R.locals) {g : JFrame} (hg : g.method = m) (hsz : g.locals.size = c.maxLocals) (has : argsL.toArray = as') (hlen : ∀ sig, parseMethodDescriptor y.desc = some sig → argsL.length = sig.parameters.length) (hstk : g.stack = argsL.reverse ++ rest) (hW : 2 * g.monitorRoom + (rest.map fun v => v.category).sum ≤ W)
    (hd : decode c.code g.pc = .ok (.invokestatic index, 3)) (eT : T.heap = h) (hc : cells + rm.cells ≤ R.cells) (hs : slots + rm.slots ≤ R.slots) :
    ∃ v T' L, Stand p l e R (s.setVm T'.vm) m args below meth c T' (locs ++ L) (cells + rm.cells) (slots + rm.slots) ∧ Q v T'.heap T'.vm L ∧ s.Since T'.vm T'.heap.size ∧ h.size ≤ T'.heap.size ∧ Z.Warmed39 (s.setVm T'.vm).vm ∧ (s.setVm T'.vm).vm.findClass own = some m.cls ∧ ∀ target, Steps p.tables e below (T'.setTop { g with pc := g.pc + 3, stack := v.toList ++ rest }) target → Steps p.tables e below (T.setTop g) target := by
  obtain ⟨v, _, ⟨T', L', k', n'⟩, -, X', hS', hg', ⟨Lc, hQ, l', y', z'⟩, st⟩ := callSS X hx (y := y) hown (mvT hZ w1) (mvT hZ w2) (mvT hZ w3) (mvT hZ w4) hy (own_backS (W := W) hM hZ w4 w3 hf hl) (g := g) hg hsz (argsL := argsL) (rest := rest) hlen hstk hW hd (fun vm' hv => ⟨has, eT, hJ vm' hv, hc, hs⟩)
  dsimp only [Pt.U, Pt.locs, Pt.cells, Pt.slots] at X' l' y' z' st hQ hS' hg'
  subst l' y' z'
  rw [eT] at hg'
  exact ⟨v, T', Lc, X', hQ, hS.trans hS' (Nat.le_trans hk hg'), hg', State.Warmed39.trans (t := s.setVm vm0) hZ hS'.1, by rw [show (s.setVm T'.vm).vm = T'.vm from rfl, hS'.1.alike.findClass]; exact hown, fun t k => st.trans k⟩
theorem own_callIW (X : Stand p l e R (s.setVm vm0) m args below meth c T locs cells slots) (hx : p.tables.exec = Jvm.exec) (hZ : Z.Warmed39 vm0) {k0 : Nat} (hS : s.Since vm0 k0) (hk : k0 ≤ h.size) {own : String} {index : Nat} {y : MethodName} {bytes : ByteArray} {maxL : Nat} {rm : Room} {W : Nat} {J : Vm → Prop} {Q : Option Value → Heap → Vm → List Loc → Prop} {a : Addr} {argsL rest : List Value} {as' : Array Value} (hyn : y.name = "<init>")
    (hown : vm0.findClass own = some m.cls) (w1 : (Cond.methodLink own index y).before a0 Z = true) (w2 : (Cond.instanceMethod y).before a0 Z = true) (w3 : (Cond.initialized y.cls).before a0 Z = true) (w4 : (Cond.code y bytes maxL none).before a0 Z = true) (hy : y.cls ≠ "java/lang/invoke/MethodHandle" ∧ y.cls ≠ "java/lang/invoke/VarHandle")
    (hM : own_MetW l Z y bytes maxL none [] rm h J as' Q rm.cells rm.slots) (hJ : ∀ vm', (s.setVm vm0).WarmedH vm' → J vm') (hf : rm.frames + 1 ≤ R.frames) (hl : W + (maxL + 11) + rm.locals ≤ R.locals) {g : JFrame} (hg : g.method = m) (hsz : g.locals.size = c.maxLocals) (has : (Value.ref a :: argsL).toArray = as') (hlen : ∀ sig, parseMethodDescriptor y.desc = some sig → argsL.length = sig.parameters.length) (hstk : g.stack = argsL.reverse ++ .ref a :: rest) (hW : 2 * g.monitorRoom + (rest.map fun v => v.category).sum ≤ W)
    (hd : decode c.code g.pc = .ok (.invokespecial index, 3)) (eT : T.heap = h) (hc : cells + rm.cells ≤ R.cells) (hs : slots + rm.slots ≤ R.slots) :
    ∃ v T' L, Stand p l e R (s.setVm T'.vm) m args below meth c T' (locs ++ L) (cells + rm.cells) (slots + rm.slots) ∧ Q v T'.heap T'.vm L ∧ s.Since T'.vm T'.heap.size ∧ h.size ≤ T'.heap.size ∧ Z.Warmed39 (s.setVm T'.vm).vm ∧ (s.setVm T'.vm).vm.findClass own = some m.cls ∧ ∀ target, Steps p.tables e below (T'.setTop { g with pc := g.pc + 3, stack := v.toList ++ rest }) target → Steps p.tables e below (T.setTop g) target := by
  obtain ⟨v, _, ⟨T', L', k', n'⟩, -, X', hS', hg', ⟨Lc, hQ, l', y', z'⟩, st⟩ := X.specialBackS hx (y := y) hyn hown (mvT hZ w1) (mvT hZ w2) (mvT hZ w4) hy (own_backS (W := W) hM hZ w4 w3 hf hl) (g := g) hg hsz (Steps.refl _) (a := a) (argsL := argsL) (rest := rest) hlen hstk hW hd (fun vm' hv => ⟨has, eT, hJ vm' hv, hc, hs⟩)
  dsimp only [Pt.U, Pt.locs, Pt.cells, Pt.slots] at X' l' y' z' st hQ hS' hg'
  subst l' y' z'
  rw [eT] at hg'
  exact ⟨v, T', Lc, X', hQ, hS.trans hS' (Nat.le_trans hk hg'), hg', State.Warmed39.trans (t := s.setVm vm0) hZ hS'.1, by rw [show (s.setVm T'.vm).vm = T'.vm from rfl, hS'.1.alike.findClass]; exact hown, fun t k => st.trans k⟩
theorem own_callVW (X : Stand p l e R (s.setVm vm0) m args below meth c T locs cells slots) (hx : p.tables.exec = Jvm.exec) (hZ : Z.Warmed39 vm0) {k0 : Nat} (hS : s.Since vm0 k0) (hk : k0 ≤ h.size) {own C : String} {index : Nat} {y z : MethodName} {bytes : ByteArray} {maxL : Nat} {ret : Option FieldType} {rm : Room} {W : Nat} {J : Vm → Prop} {Q : Option Value → Heap → Vm → List Loc → Prop} {a : Addr} {argsL rest : List Value} {as' : Array Value}
    (hown : vm0.findClass own = some m.cls) (w1 : (Cond.methodLink own index y).before a0 Z = true) (w2 : (Cond.declares y).before a0 Z = true) (hnf : NotFace (s.setVm vm0) y) (wsel : (Cond.selects C y z).before a0 Z = true) (wi : (Cond.instanceMethod z).before a0 Z = true) (w3 : (Cond.initialized z.cls).before a0 Z = true) (w4 : (Cond.code z bytes maxL ret).before a0 Z = true) (hy : y.cls ≠ "java/lang/invoke/MethodHandle" ∧ y.cls ≠ "java/lang/invoke/VarHandle")
    (hM : own_MetW l Z z bytes maxL ret [] rm h J as' Q rm.cells rm.slots) (hJ : ∀ vm', (s.setVm vm0).WarmedH vm' → J vm') (hf : rm.frames + 1 ≤ R.frames) (hl : W + (maxL + 11) + rm.locals ≤ R.locals) (E : Exa Z h a C) {g : JFrame} (hg : g.method = m) (hsz : g.locals.size = c.maxLocals) (has : (Value.ref a :: argsL).toArray = as') (hlen : ∀ sig, parseMethodDescriptor y.desc = some sig → argsL.length = sig.parameters.length) (hstk : g.stack = argsL.reverse ++ .ref a :: rest) (hW : 2 * g.monitorRoom + (rest.map fun v => v.category).sum ≤ W)
    (hd : decode c.code g.pc = .ok (.invokevirtual index, 3)) (eT : T.heap = h) (hc : cells + rm.cells ≤ R.cells) (hs : slots + rm.slots ≤ R.slots) :
    ∃ v T' L, Stand p l e R (s.setVm T'.vm) m args below meth c T' (locs ++ L) (cells + rm.cells) (slots + rm.slots) ∧ Q v T'.heap T'.vm L ∧ s.Since T'.vm T'.heap.size ∧ h.size ≤ T'.heap.size ∧ Z.Warmed39 (s.setVm T'.vm).vm ∧ (s.setVm T'.vm).vm.findClass own = some m.cls ∧ ∀ target, Steps p.tables e below (T'.setTop { g with pc := g.pc + 3, stack := v.toList ++ rest }) target → Steps p.tables e below (T.setTop g) target := by
  obtain ⟨cq, kq, qa, qb, qc⟩ := isOf (s := s.setVm vm0) hZ eT E
  obtain ⟨v, _, ⟨T', L', k', n'⟩, -, X', hS', hg', ⟨Lc, hQ, l', y', z'⟩, st⟩ := X.virtualBackS hx (y := y) (z := z) hown (mvT hZ w1) (mvT hZ w2) hnf (mvT hZ wsel) (mvT hZ wi) hy (own_backS (W := W) hM hZ w4 w3 hf hl) qa qc (g := g) hg hsz (Steps.refl _) (argsL := argsL) (rest := rest) hlen hstk hW hd (fun vm' hv => ⟨has, eT, hJ vm' hv, hc, hs⟩)
  dsimp only [Pt.U, Pt.locs, Pt.cells, Pt.slots] at X' l' y' z' st hQ hS' hg'
  subst l' y' z'
  rw [eT] at hg'
  exact ⟨v, T', Lc, X', hQ, hS.trans hS' (Nat.le_trans hk hg'), hg', State.Warmed39.trans (t := s.setVm vm0) hZ hS'.1, by rw [show (s.setVm T'.vm).vm = T'.vm from rfl, hS'.1.alike.findClass]; exact hown, fun t k => st.trans k⟩
theorem own_ibW {Ts : List String} {vm' : Vm} (I : IB Z vm0 Ts) (hv : (s.setVm vm0).WarmedH vm') : IB Z vm' Ts := by
  obtain ⟨more, h1, h2⟩ := I
  exact ⟨more, by rw [hv.interned_eq]; exact h1, h2⟩
theorem own_litW {own : String} {index : Nat} {a : Addr} {vm' : Vm} (L : Lit (s.setVm vm0) own index a) (hv : (s.setVm vm0).WarmedH vm') : Lit (s.setVm vm') own index a := Lit.stays L hv.wide
end OwnW
theorem own_wS {a0 : Array Value} {Z : State} (hw : ∀ d ∈ tables_1, d.before a0 Z = true) : ∀ a ∈ Bundle.stringAtoms, a.before a0 Z = true := fun d hd => by
  simp only [Bundle.stringAtoms, List.mem_cons, List.not_mem_nil, or_false] at hd
  rcases hd with rfl | rfl | rfl | rfl | rfl | rfl | rfl
  · exact own_h hw 6 rfl
  · exact own_h hw 5 rfl
  · exact own_h hw 23 rfl
  · exact own_h hw 33 rfl
  · exact own_h hw 31 rfl
  · exact own_h hw 103 rfl
  · exact own_h hw 104 rfl
theorem own_eqI {args : Array Value} {s : State} {a b : Term} {z k : Int32} (hx : a.eval args s none [] s = some (.int z)) (hy : b.eval args s none [] s = some (.int k)) (h : (Jvm.Cond.eq a b).value args s none s [] = some true) : z = k := by
  simpa [Cond.value, hx, hy] using h
theorem own_fldAt {args : Array Value} {s : State} {t : Term} {a : Addr} {Cc n d : String} {k : Int32} (h : (Jvm.Cond.eq (.field t Cc n d) (.int k)).value args s none s [] = some true) (ht : t.eval args s none [] s = some (.ref a)) : Fld s s.heap a Cc n d (.int k) := by
  obtain ⟨x, y, hx, hy, k1, k2⟩ := cmp_v (Or.inl h)
  have hy' : some (Value.int k) = some y := hy
  cases hy'
  obtain ⟨z, rfl⟩ := k2
  have e : z = k := own_eqI hx hy h
  subst e
  exact Fld.start ((fld_at ht).symm.trans hx)
theorem own_fldR {args : Array Value} {s : State} {t : Term} {a b : Addr} {Cc n d : String} (ht : t.eval args s none [] s = some (.ref a)) (hx : (Term.field t Cc n d).eval args s none [] s = some (.ref b)) : Fld s s.heap a Cc n d (.ref b) := Fld.start ((fld_at ht).symm.trans hx)
theorem own_elemAt {args : Array Value} {s : State} {t u : Term} {a o : Addr} {cl : Cell} {i : Int32} {j : Nat} (h : (Jvm.Cond.eq (.elem t (.int i)) u).value args s none s [] = some true) (ht : t.eval args s none [] s = some (.ref a)) (hu : u.eval args s none [] s = some (.ref o)) (hc : s.heap[a]? = some cl) (hij : i.toNatClampNeg = j) : cl.slots[j]? = some (.ref o) := by
  obtain ⟨x, y, hx, hy, k1, k2⟩ := cmp_v (Or.inl h)
  cases hu.symm.trans hy
  have q := gotT (eq_R hx hy k2.2 rfl) h
  subst q
  have := (elem_in hx ht rfl hc).2
  rw [hij] at this
  exact this
theorem own_elemI {args : Array Value} {s : State} {t : Term} {a : Addr} {cl : Cell} {i k : Int32} {j : Nat} (h : (Jvm.Cond.eq (.elem t (.int i)) (.int k)).value args s none s [] = some true) (ht : t.eval args s none [] s = some (.ref a)) (hc : s.heap[a]? = some cl) (hij : i.toNatClampNeg = j) : cl.slots[j]? = some (.int k) := by
  obtain ⟨x, y, hx, hy, k1, k2⟩ := cmp_v (Or.inl h)
  have hy' : some (Value.int k) = some y := hy
  cases hy'
  obtain ⟨z, rfl⟩ := k2
  have e : z = k := own_eqI hx hy h
  subst e
  have := (elem_in hx ht rfl hc).2
  rw [hij] at this
  exact this
theorem own_lenAt {args : Array Value} {s : State} {t : Term} {a : Addr} {cl : Cell} {ty : FieldType} {k : Int32} (h : (Jvm.Cond.eq (.length t) (.int k)).value args s none s [] = some true) (ht : t.eval args s none [] s = some (.ref a)) (A : Arr s s.heap a cl ty) : cl.slots.size < 2 ^ 31 ∧ cl.slots.size.toInt32 = k := by
  obtain ⟨x, y, hx, hy, k1, k2⟩ := cmp_v (Or.inl h)
  have hy' : some (Value.int k) = some y := hy
  cases hy'
  obtain ⟨z, rfl⟩ := k2
  have e : z = k := own_eqI hx hy h
  subst e
  have ha := Arr.fin (U := s) (Vm.Alike.refl _) A
  simp only [Term.eval, ht, ha, Option.bind_eq_bind, Option.bind_some] at hx
  split at hx
  · rename_i q; exact ⟨q, Value.int.inj (Option.some.inj hx)⟩
  · cases hx
theorem own_staI {args : Array Value} {s : State} {Cc n d : String} (h : (Jvm.Cond.isInt (.static Cc n d)).value args s none s [] = some true) (hi : (Jvm.Cond.initializedFor Cc n d).before args s = true) : ∃ z, Sta s s.heap Cc n d (.int z) ∧ (Term.static Cc n d).eval args s none [] s = some (.int z) := by
  obtain ⟨z, e⟩ := is_v h
  exact ⟨z, Sta.start e (Or.inl hi), e⟩
theorem own_not0 {args : Array Value} {s : State} {t : Term} {z k : Int32} (e : t.eval args s none [] s = some (.int z)) (h : (Jvm.Cond.not (.eq t (.int k))).value args s none s [] = some true) : ¬ z = k := fun q => by
  subst q
  have h2 := not_v h
  simp [Cond.value, e, Term.eval] at h2
theorem own_staR {args : Array Value} {s : State} {Cc n d : String} (h : (Jvm.Cond.isRef (.static Cc n d)).value args s none s [] = some true) (hi : (Jvm.Cond.initializedFor Cc n d).before args s = true) : ∃ z, Sta s s.heap Cc n d z ∧ z.isRef = true := by
  obtain ⟨z, e, r⟩ := isR_v h
  exact ⟨z, Sta.start e (Or.inl hi), r⟩
def own_Lit (vm : Vm) (a : Addr) : Prop := ∀ s : State, Lit (s.setVm vm) "java/lang/String" 7 a
/-- the literal "" of java/lang/String: nobody has loaded it in this walk, or it is booked, and what it holds -/
def own_EL (Z : State) (vm : Vm) (h : Heap) : Prop := IB Z vm [] ∨ ∃ (sl b : Addr) (k : ClassId), own_Lit vm sl ∧ Exa Z h sl "java/lang/String" ∧ Fld Z h sl "java/lang/String" "coder" "B" (.int 0) ∧ Fld Z h sl "java/lang/String" "value" "[B" (.ref b) ∧ Arv Z h b k .byte 0 [] (.int 0)
theorem own_litAll {s : State} {vm : Vm} {a : Addr} (L : Lit (s.setVm vm) "java/lang/String" 7 a) : own_Lit vm a := fun _ => L
theorem own_ELk {Z : State} {vm : Vm} {h h' : Heap} (F : own_EL Z vm h) (K : Keep h h' []) : own_EL Z vm h' := by
  rcases F with I | ⟨sl, b, k, L, E, C, V, A⟩
  · exact Or.inl I
  · exact Or.inr ⟨sl, b, k, L, E.keep K, C.keep K nin0, V.keep K nin0, A.keep K nin0⟩
theorem own_ELe {Z : State} {vm : Vm} {h h' : Heap} (F : own_EL Z vm h) (E : Ext h h') : own_EL Z vm h' := own_ELk F ((Keep.refl _ _).ext E)
theorem own_ELw {Z s : State} {vm0 vm' : Vm} {h : Heap} (F : own_EL Z vm0 h) (hv : (s.setVm vm0).WarmedH vm') : own_EL Z vm' h := by
  rcases F with I | ⟨sl, b, k, L, r⟩
  · exact Or.inl (own_ibW I hv)
  · exact Or.inr ⟨sl, b, k, own_litAll (own_litW (L s) hv), r⟩
theorem own_c255 (x : Int32) : ¬ (255 : Int32) < nar .char ((x &&& (255 : Int32)).toUInt32.toUInt16.toUInt32.toInt32) := by
  have e : nar .char ((x &&& (255 : Int32)).toUInt32.toUInt16.toUInt32.toInt32) = x &&& 255 := by
    show (((x &&& (255 : Int32)).toUInt32.toUInt16.toUInt32.toInt32).toUInt32.toUInt16.toUInt32.toInt32) = _
    rw [i2c_mask, i2c_mask]
  rw [e]
  exact Int32.not_lt.mpr (Jvm.Kit.i32_and_bounds x (m := 255) (by decide)).2
def own_mxL (a b : Int64) : Int64 := if a < b then b else a
def own_wat (w mm : Int32) (sm now : Int64) : Int32 := if own_mxL (0 : Int64) (now - sm) < mm.toInt64 then (own_mxL (1 : Int64) ((own_mxL (0 : Int64) (now - sm) * w.toInt64) / mm.toInt64)).toInt32 else w
theorem own_mnz {x : Int64} {mm : Int32} (h : own_mxL (0 : Int64) x < mm.toInt64) : mm.toInt64 ≠ 0 := fun q => by
  have e0 : (0 : Int64).toInt = 0 := rfl
  rw [q, Int64.lt_iff_toInt_lt] at h
  unfold own_mxL at h
  split at h
  · rename_i c; rw [Int64.lt_iff_toInt_lt] at c; omega
  · omega
theorem own_and62 (x : Int64) : 0 ≤ (x &&& (4611686018427387903 : Int64)).toInt ∧ (x &&& (4611686018427387903 : Int64)).toInt ≤ 4611686018427387903 := by
  have e : (x &&& (4611686018427387903 : Int64)).toBitVec.toNat = x.toBitVec.toNat &&& 4611686018427387903 := by simp [Int64.toBitVec_and, BitVec.toNat_and]
  have hle : (x &&& (4611686018427387903 : Int64)).toBitVec.toNat ≤ 4611686018427387903 := by rw [e]; exact Nat.and_le_right
  have e2 : (x &&& (4611686018427387903 : Int64)).toInt = ((x &&& (4611686018427387903 : Int64)).toBitVec.toNat : Int) := by
    have : (x &&& (4611686018427387903 : Int64)).toInt = (x &&& (4611686018427387903 : Int64)).toBitVec.toInt := rfl
    rw [this, BitVec.toInt_eq_toNat_cond, if_pos (by omega)]
  omega
theorem own_warm (x : Int64) : own_wat (100 : Int32) (600000 : Int32) (0 : Int64) ((x &&& (4611686018427387903 : Int64)) + (600000 : Int64)) = (100 : Int32) := by
  obtain ⟨h1, h2⟩ := own_and62 x
  have e6 : (600000 : Int64).toInt = 600000 := rfl
  have e7 : (600000 : Int32).toInt64.toInt = 600000 := rfl
  have e0 : (0 : Int64).toInt = 0 := rfl
  have e : ((x &&& (4611686018427387903 : Int64)) + (600000 : Int64)).toInt = (x &&& (4611686018427387903 : Int64)).toInt + 600000 := by
    rw [Int64.toInt_add, e6]; exact Int.bmod_eq_of_le (by omega) (by omega)
  refine if_neg fun q => ?_
  rw [Int64.sub_zero, Int64.lt_iff_toInt_lt, e7] at q
  unfold own_mxL at q
  split at q
  · rw [e] at q; omega
  · rename_i c; rw [Int64.lt_iff_toInt_lt, e] at c; omega
def own_by (c : Int32) : Int32 := nar .byte (c.toInt8.toInt32)
abbrev own_y0 : MethodName := ⟨"java/lang/StringUTF16", "compress", "([CI[BII)I"⟩
theorem own_pn0 : plainName "java/lang/StringUTF16" = true := by first | (simp [plainName, overriddenIn]; done) | decide +kernel
theorem own_dz5_1_0 : decode jdk_52_method_21_code 0 = .ok (.iconst 0, 1) := by decide +kernel
theorem own_dz5_1_1 : decode jdk_52_method_21_code 1 = .ok (.istore 5, 2) := by decide +kernel
theorem own_dz5_1_3 : decode jdk_52_method_21_code 3 = .ok (.iload 5, 2) := by decide +kernel
theorem own_dz5_1_5 : decode jdk_52_method_21_code 5 = .ok (.iload 4, 2) := by decide +kernel
theorem own_dz5_1_7 : decode jdk_52_method_21_code 7 = .ok (.if_icmp .ge 37, 3) := by decide +kernel
theorem own_dz5_1_10 : decode jdk_52_method_21_code 10 = .ok (.aload_n 0, 1) := by decide +kernel
theorem own_dz5_1_11 : decode jdk_52_method_21_code 11 = .ok (.iload_n 1, 1) := by decide +kernel
theorem own_dz5_1_12 : decode jdk_52_method_21_code 12 = .ok (.caload, 1) := by decide +kernel
theorem own_dz5_1_13 : decode jdk_52_method_21_code 13 = .ok (.istore 6, 2) := by decide +kernel
theorem own_dz5_1_15 : decode jdk_52_method_21_code 15 = .ok (.iload 6, 2) := by decide +kernel
theorem own_dz5_1_17 : decode jdk_52_method_21_code 17 = .ok (.sipush 255, 3) := by decide +kernel
theorem own_dz5_1_20 : decode jdk_52_method_21_code 20 = .ok (.if_icmp .le 6, 3) := by decide +kernel
theorem own_dz5_1_26 : decode jdk_52_method_21_code 26 = .ok (.aload_n 2, 1) := by decide +kernel
theorem own_dz5_1_27 : decode jdk_52_method_21_code 27 = .ok (.iload_n 3, 1) := by decide +kernel
theorem own_dz5_1_28 : decode jdk_52_method_21_code 28 = .ok (.iload 6, 2) := by decide +kernel
theorem own_dz5_1_30 : decode jdk_52_method_21_code 30 = .ok (.i2b, 1) := by decide +kernel
theorem own_dz5_1_31 : decode jdk_52_method_21_code 31 = .ok (.bastore, 1) := by decide +kernel
theorem own_dz5_1_32 : decode jdk_52_method_21_code 32 = .ok (.iinc 1 1, 3) := by decide +kernel
theorem own_dz5_1_35 : decode jdk_52_method_21_code 35 = .ok (.iinc 3 1, 3) := by decide +kernel
theorem own_dz5_1_38 : decode jdk_52_method_21_code 38 = .ok (.iinc 5 1, 3) := by decide +kernel
theorem own_dz5_1_41 : decode jdk_52_method_21_code 41 = .ok (.goto (-38), 3) := by decide +kernel
theorem own_dz5_1_44 : decode jdk_52_method_21_code 44 = .ok (.iload 4, 2) := by decide +kernel
theorem own_dz5_1_46 : decode jdk_52_method_21_code 46 = .ok (.ireturn, 1) := by decide +kernel
theorem own_efz5_1 (m : MethodId) (x0 : Addr) (x1 : Int32) (x2 : Addr) (x3 : Int32) (x4 : Int32) : entryFrame m #[(.ref x0), (.int x1), (.ref x2), (.int x3), (.int x4)] 7 = mkF m 0 #[rv x0, iv x1, rv x2, iv x3, iv x4, u_, u_] [] := by first | (simp [entryFrame, mkF, argsToLocals, Value.category]; done) | rfl
def own_Qz5_1 (Z : State) (a1 : Addr) (a3 : Addr) (ka : ClassId) (kc : ClassId) (ch0 : Int32) (h0 : Heap) (n0 : Nat) : Option Value → Heap → List Loc → Prop := fun v h L => v = some (.int 1) ∧ Fr n0 L ∧ Keep h0 h [a3] ∧ Arv Z h a3 kc .byte (1 : Int32) [(.int (own_by ch0))] (.int 0)
def own_Rz5_1 : Room := { frames := 0, cells := 0, slots := 0, locals := 0 }
set_option maxRecDepth 65536 in
set_option maxHeartbeats 40000000 in
theorem own_rmz5_1 (l : Launch) (Z : State) (a0 : Array Value) (hw : ∀ d ∈ tables_1, d.before a0 Z = true) (ws : List Jvm.Cond) (a1 : Addr) (a3 : Addr) (ka : ClassId) (kc : ClassId) (ch0 : Int32) (h0 : Heap) (n0 : Nat) (Z0 : n0 ≤ h0.size) (V1 : Arv Z h0 a1 ka .char (1 : Int32) [(.int ch0)] (.int 0)) (V3 : Arv Z h0 a3 kc .byte (1 : Int32) [(.int 0)] (.int 0)) (hne : a1 ≠ a3) (g_a3 : n0 ≤ a3) (hc0 : ¬ (255 : Int32) < ch0) :
    own_Met l Z own_y0 jdk_52_method_21_code 7 (some .int) ws own_Rz5_1 h0 #[(.ref a1), (.int 0), (.ref a3), (.int 0), (.int 1)] (own_Qz5_1 Z a1 a3 ka kc ch0 h0 n0) own_Rz5_1.cells own_Rz5_1.slots := by
  refine own_start (plainFor_of_name own_pn0) ?_
  intro p e s m below meth c s₁ X0 hx hZ hby hml hret hlk hown hnm e0
  have hown : s.vm.findClass "java/lang/StringUTF16" = some m.cls := hown
  have hml : c.maxLocals = 7 := hml
  have N0 := Fr.nil n0
  refine own_cast (own_efz5_1 m a1 (0 : Int32) a3 (0 : Int32) (1 : Int32)) ?_
  refine own_s s₁ (mkF m 10 #[rv a1, iv 0, rv a3, iv 0, iv 1, iv 0, u_] []) (fun _ k => XS.iconst X0.here hx rfl (hb hby own_dz5_1_0) (XS.istore X0.here hx rfl (hb hby own_dz5_1_1) rfl (l' := #[rv a1, iv 0, rv a3, iv 0, iv 1, iv 0, u_]) rfl (XS.iload X0.here hx rfl (hb hby own_dz5_1_3) rfl  (XS.iload X0.here hx rfl (hb hby own_dz5_1_5) rfl  (XS.icmpNo X0.here hx rfl (hb hby own_dz5_1_7) rfl (tlt (by decide : ((0 : Int32) < (1 : Int32)))).2.1 k))))) ?_
  refine own_s s₁ (mkF m 12 #[rv a1, iv 0, rv a3, iv 0, iv 1, iv 0, u_] [(.int 0), (.ref a1)]) (fun _ k => XS.aloadN X0.here hx rfl (hb hby own_dz5_1_10) rfl rfl (XS.iloadN X0.here hx rfl (hb hby own_dz5_1_11) rfl  k)) ?_
  obtain ⟨cl1, Ar1, q1, S1, Nn1, H1, G1⟩ := id V1
  have hin1 : ¬ ((0 : Int32) < 0 ∨ cl1.slots.size ≤ ((0 : Int32)).toNatClampNeg) := (inb_of S1 ⟨by decide, by decide⟩)
  refine own_s s₁ (mkF m 26 #[rv a1, iv 0, rv a3, iv 0, iv 1, iv 0, iv ch0] []) (fun _ k => X0.caload hx (j := (0 : Int32)) (v := (.int ch0)) (own_at e0 Ar1.1) (State.isArrayOf_alike hZ.alike Ar1.2.1) Ar1.2.2 hin1 (Has.at H1 hin1 rfl) (g := (mkF m 12 #[rv a1, iv 0, rv a3, iv 0, iv 1, iv 0, u_] [(.int 0), (.ref a1)])) rfl rfl (hb hby own_dz5_1_12) _ (XS.istore X0.here hx rfl (hb hby own_dz5_1_13) rfl (l' := #[rv a1, iv 0, rv a3, iv 0, iv 1, iv 0, iv ch0]) rfl (XS.iload X0.here hx rfl (hb hby own_dz5_1_15) rfl  (XS.sipush X0.here hx rfl (hb hby own_dz5_1_17) (XS.icmpYes X0.here hx rfl (pc0 := 20) (pc' := 26) rfl (hb hby own_dz5_1_20) rfl (flt hc0).2.2.2 (by decide) (by decide) k))))) ?_
  refine own_s s₁ (mkF m 31 #[rv a1, iv 0, rv a3, iv 0, iv 1, iv 0, iv ch0] [(.int (ch0.toInt8.toInt32)), (.int 0), (.ref a3)]) (fun _ k => XS.aloadN X0.here hx rfl (hb hby own_dz5_1_26) rfl rfl (XS.iloadN X0.here hx rfl (hb hby own_dz5_1_27) rfl  (XS.iload X0.here hx rfl (hb hby own_dz5_1_28) rfl  (XS.i2b X0.here hx rfl (hb hby own_dz5_1_30) rfl k)))) ?_
  obtain ⟨cl2, Ar2, q2, S2, Nn2, H2, G2⟩ := id V3
  have hin2 : ¬ ((0 : Int32) < 0 ∨ cl2.slots.size ≤ ((0 : Int32)).toNatClampNeg) := (inb_of S2 ⟨by decide, by decide⟩)
  obtain ⟨T2, h2, X2, e2, W2, st2⟩ := stB X0 hx hZ e0 Ar2 (j := (0 : Int32)) hin2 (g := (mkF m 31 #[rv a1, iv 0, rv a3, iv 0, iv 1, iv 0, iv ch0] [(.int (ch0.toInt8.toInt32)), (.int 0), (.ref a3)])) rfl rfl (hb hby own_dz5_1_31)
  have f2 : Arv Z h2 a3 kc .byte (1 : Int32) [(.int (own_by ch0))] (.int 0) := Arv.set Ar2 q2 S2 Nn2 H2 G2 (fits_nar_byte _) W2 0 rfl (Nat.le_of_ble_eq_true rfl)
  have f3 := V1.other W2 hne
  have K2 : Keep h0 h2 [a3] := (Keep.refl h0 [a3]).wr W2 (Or.inl (List.mem_of_getElem? (i := 0) rfl))
  have Z2 := Nat.le_trans Z0 (Nat.le_of_eq W2.size.symm)
  have N2 := Fr.snoc X2 N0 g_a3
  refine own_s T2 (mkF m 32 #[rv a1, iv 0, rv a3, iv 0, iv 1, iv 0, iv ch0] []) st2 ?_
  refine own_s T2 (mkF m 5 #[rv a1, iv 1, rv a3, iv 1, iv 1, iv 1, iv ch0] [(.int 1)]) (fun _ k => XS.iinc X2.here hx rfl (hb hby own_dz5_1_32) rfl (l' := #[rv a1, iv 1, rv a3, iv 0, iv 1, iv 0, iv ch0]) rfl (XS.iinc X2.here hx rfl (hb hby own_dz5_1_35) rfl (l' := #[rv a1, iv 1, rv a3, iv 1, iv 1, iv 0, iv ch0]) rfl (XS.iinc X2.here hx rfl (hb hby own_dz5_1_38) rfl (l' := #[rv a1, iv 1, rv a3, iv 1, iv 1, iv 1, iv ch0]) rfl (XS.goto X2.here hx rfl (pc0 := 41) (pc' := 3) rfl (hb hby own_dz5_1_41) (by decide) (by decide) (XS.iload X2.here hx rfl (hb hby own_dz5_1_3) rfl  k))))) ?_
  refine own_s T2 (mkF m 46 #[rv a1, iv 1, rv a3, iv 1, iv 1, iv 1, iv ch0] [(.int 1)]) (fun _ k => XS.iload X2.here hx rfl (hb hby own_dz5_1_5) rfl  (XS.icmpYes X2.here hx rfl (pc0 := 7) (pc' := 44) rfl (hb hby own_dz5_1_7) rfl (flt (by decide : ¬ ((1 : Int32) < (1 : Int32)))).2.1 (by decide) (by decide) (XS.iload X2.here hx rfl (hb hby own_dz5_1_44) rfl  k))) ?_
  exact own_finI X2 hx hret (hb hby own_dz5_1_46) (own_end (Qv := (own_Qz5_1 Z a1 a3 ka kc ch0 h0 n0)) X2 (own_some hret) hlk (by decide) (by decide) e2 ⟨rfl, N2, K2, f2⟩)
theorem own_pd0 : parseMethodDescriptor "([CI[BII)I" = some ⟨[(.array .char), .int, (.array .byte), .int, .int], some .int⟩ := by decide +kernel
abbrev own_y1 : MethodName := ⟨"java/lang/StringUTF16", "compress", "([CII)[B"⟩
theorem own_dz3_1_0 : decode jdk_52_method_16_code 0 = .ok (.iload_n 2, 1) := by decide +kernel
theorem own_dz3_1_1 : decode jdk_52_method_16_code 1 = .ok (.newarray .byte, 2) := by decide +kernel
theorem own_dz3_1_3 : decode jdk_52_method_16_code 3 = .ok (.astore_n 3, 1) := by decide +kernel
theorem own_dz3_1_4 : decode jdk_52_method_16_code 4 = .ok (.aload_n 0, 1) := by decide +kernel
theorem own_dz3_1_5 : decode jdk_52_method_16_code 5 = .ok (.iload_n 1, 1) := by decide +kernel
theorem own_dz3_1_6 : decode jdk_52_method_16_code 6 = .ok (.aload_n 3, 1) := by decide +kernel
theorem own_dz3_1_7 : decode jdk_52_method_16_code 7 = .ok (.iconst 0, 1) := by decide +kernel
theorem own_dz3_1_8 : decode jdk_52_method_16_code 8 = .ok (.iload_n 2, 1) := by decide +kernel
theorem own_dz3_1_9 : decode jdk_52_method_16_code 9 = .ok (.invokestatic 115, 3) := by decide +kernel
theorem own_dz3_1_12 : decode jdk_52_method_16_code 12 = .ok (.istore 4, 2) := by decide +kernel
theorem own_dz3_1_14 : decode jdk_52_method_16_code 14 = .ok (.iload 4, 2) := by decide +kernel
theorem own_dz3_1_16 : decode jdk_52_method_16_code 16 = .ok (.iload_n 2, 1) := by decide +kernel
theorem own_dz3_1_17 : decode jdk_52_method_16_code 17 = .ok (.if_icmp .eq 40, 3) := by decide +kernel
theorem own_dz3_1_57 : decode jdk_52_method_16_code 57 = .ok (.aload_n 3, 1) := by decide +kernel
theorem own_dz3_1_58 : decode jdk_52_method_16_code 58 = .ok (.areturn, 1) := by decide +kernel
theorem own_efz3_1 (m : MethodId) (x0 : Addr) (x1 : Int32) (x2 : Int32) : entryFrame m #[(.ref x0), (.int x1), (.int x2)] 6 = mkF m 0 #[rv x0, iv x1, iv x2, u_, u_, u_] [] := by first | (simp [entryFrame, mkF, argsToLocals, Value.category]; done) | rfl
def own_Qz3_1 (Z : State) (a1 : Addr) (ka : ClassId) (ch0 : Int32) (h0 : Heap) (n0 : Nat) : Option Value → Heap → List Loc → Prop := fun v h L => (∃ (b : Addr) (k : ClassId), v = some (.ref b) ∧ n0 ≤ b ∧ h0.size ≤ b ∧ Arv Z h b k .byte (1 : Int32) [(.int (own_by ch0))] (.int 0)) ∧ Fr n0 L ∧ Keep h0 h []
def own_Rz3_1 : Room := { frames := 1, cells := 1, slots := 1, locals := 18 }
set_option maxRecDepth 65536 in
set_option maxHeartbeats 40000000 in
theorem own_rmz3_1 (l : Launch) (Z : State) (a0 : Array Value) (hw : ∀ d ∈ tables_1, d.before a0 Z = true) (ws : List Jvm.Cond) (a1 : Addr) (ka : ClassId) (ch0 : Int32) (h0 : Heap) (n0 : Nat) (Z0 : n0 ≤ h0.size) (V1 : Arv Z h0 a1 ka .char (1 : Int32) [(.int ch0)] (.int 0)) (hc0 : ¬ (255 : Int32) < ch0) :
    own_Met l Z own_y1 jdk_52_method_16_code 6 (some (.array .byte)) ws own_Rz3_1 h0 #[(.ref a1), (.int 0), (.int 1)] (own_Qz3_1 Z a1 ka ch0 h0 n0) own_Rz3_1.cells own_Rz3_1.slots := by
  refine own_start (plainFor_of_name own_pn0) ?_
  intro p e s m below meth c s₁ X0 hx hZ hby hml hret hlk hown hnm e0
  have hown : s.vm.findClass "java/lang/StringUTF16" = some m.cls := hown
  have hml : c.maxLocals = 6 := hml
  have N0 := Fr.nil n0
  refine own_cast (own_efz3_1 m a1 (0 : Int32) (1 : Int32)) ?_
  refine own_s s₁ (mkF m 1 #[rv a1, iv 0, iv 1, u_, u_, u_] [(.int 1)]) (fun _ k => XS.iloadN X0.here hx rfl (hb hby own_dz3_1_0) rfl  k) ?_
  obtain ⟨T1, h1, k1, X1, e1, E1, A1, st1⟩ := newP X0 hx hZ (own_h hw 23 rfl) e0 (g := (mkF m 1 #[rv a1, iv 0, iv 1, u_, u_, u_] [(.int 1)])) rfl (hb hby own_dz3_1_1) rfl (by decide) (cap := 1) (by decide) (by decide) (by decide) (by decide)
  obtain ⟨b1, g1⟩ : ∃ z, z = h0.size := ⟨_, rfl⟩
  have ne_a1_b1 : a1 ≠ b1 := Nat.ne_of_lt (Nat.lt_of_lt_of_le V1.lt (Nat.le_of_eq g1.symm))
  have g_b1 : n0 ≤ b1 := Nat.le_trans Z0 (Nat.le_of_eq g1.symm)
  have sz_b1 : h0.size ≤ b1 := Nat.le_trans (Keep.refl h0 []).1 (Nat.le_of_eq g1.symm)
  rw [← g1] at A1 st1
  have f2 := V1.ext E1
  have K1 : Keep h0 h1 [] := (Keep.refl h0 []).ext E1
  have Z1 := Nat.le_trans Z0 E1.1
  have f1 : Arv Z h1 b1 k1 .byte 1 [(.int 0)] (.int 0) := (Arv.new A1 (by decide)).pad (pad_rep [] (.int 0) 1)
  refine own_s T1 (mkF m 3 #[rv a1, iv 0, iv 1, u_, u_, u_] [(.ref b1)]) st1 ?_
  refine own_s T1 (mkF m 8 #[rv a1, iv 0, iv 1, rv b1, u_, u_] [(.int 0), (.ref b1), (.int 0), (.ref a1)]) (fun _ k => XS.astoreN X1.here hx rfl (hb hby own_dz3_1_3) rfl rfl (l' := #[rv a1, iv 0, iv 1, rv b1, u_, u_]) rfl (XS.aloadN X1.here hx rfl (hb hby own_dz3_1_4) rfl rfl (XS.iloadN X1.here hx rfl (hb hby own_dz3_1_5) rfl  (XS.aloadN X1.here hx rfl (hb hby own_dz3_1_6) rfl rfl (XS.iconst X1.here hx rfl (hb hby own_dz3_1_7) k))))) ?_
  refine own_s T1 (mkF m 9 #[rv a1, iv 0, iv 1, rv b1, u_, u_] [(.int 1), (.int 0), (.ref b1), (.int 0), (.ref a1)]) (fun _ k => XS.iloadN X1.here hx rfl (hb hby own_dz3_1_8) rfl  k) ?_
  obtain ⟨v3, T3, L3, X3, hQ3, st3⟩ := own_callS X1 hx hZ (y := own_y0) (W := 0) hown (own_h hw 24 rfl) (own_h hw 25 rfl) (own_h hw 21 rfl) (own_h hw 26 rfl) (by decide) (own_rmz5_1 l Z a0 hw [] a1 b1 ka k1 ch0 h1 n0 Z1 f2 f1 ne_a1_b1 g_b1 hc0) (by decide) (by decide) (g := (mkF m 9 #[rv a1, iv 0, iv 1, rv b1, u_, u_] [(.int 1), (.int 0), (.ref b1), (.int 0), (.ref a1)])) rfl (by rw [hml]; rfl) (argsL := [(.ref a1), (.int 0), (.ref b1), (.int 0), (.int 1)]) (rest := []) rfl (lenOf own_pd0 rfl) rfl (by show 2 * 0 + _ ≤ _; exact Nat.le_of_eq rfl) (hb hby own_dz3_1_9) e1 (by decide) (by decide)
  obtain ⟨rfl, Nq3, Kq3, Vq3⟩ := hQ3
  have N3 := Fr.app N0 Nq3
  have f4 := f2.keep Kq3 (ninS ne_a1_b1 nin0)
  have K3 : Keep h0 T3.heap [] := K1.trans Kq3 (allS (Or.inr sz_b1) all0)
  have Z3 := Nat.le_trans Z1 Kq3.1
  refine own_s T3 (mkF m 12 #[rv a1, iv 0, iv 1, rv b1, u_, u_] [(.int 1)]) st3 ?_
  refine own_s T3 (mkF m 58 #[rv a1, iv 0, iv 1, rv b1, iv 1, u_] [(.ref b1)]) (fun _ k => XS.istore X3.here hx rfl (hb hby own_dz3_1_12) rfl (l' := #[rv a1, iv 0, iv 1, rv b1, iv 1, u_]) rfl (XS.iload X3.here hx rfl (hb hby own_dz3_1_14) rfl  (XS.iloadN X3.here hx rfl (hb hby own_dz3_1_16) rfl  (XS.icmpYes X3.here hx rfl (pc0 := 17) (pc' := 57) rfl (hb hby own_dz3_1_17) rfl (teq (by decide : ((1 : Int32) = (1 : Int32)))).1 (by decide) (by decide) (XS.aloadN X3.here hx rfl (hb hby own_dz3_1_57) rfl rfl k))))) ?_
  exact own_finA X3 hx hret rfl rfl (hb hby own_dz3_1_58) (own_end (Qv := (own_Qz3_1 Z a1 ka ch0 h0 n0)) X3 (own_some hret) hlk (by decide) (by decide) rfl ⟨⟨b1, _, rfl, g_b1, sz_b1, Vq3⟩, N3, K3⟩)
abbrev own_y2 : MethodName := ⟨"java/lang/StringUTF16", "coderFromArrayLen", "([BI)B"⟩
theorem own_dcdr_1_0 : decode jdk_52_method_15_code 0 = .ok (.iload_n 1, 1) := by decide +kernel
theorem own_dcdr_1_1 : decode jdk_52_method_15_code 1 = .ok (.aload_n 0, 1) := by decide +kernel
theorem own_dcdr_1_2 : decode jdk_52_method_15_code 2 = .ok (.arraylength, 1) := by decide +kernel
theorem own_dcdr_1_3 : decode jdk_52_method_15_code 3 = .ok (.isub, 1) := by decide +kernel
theorem own_dcdr_1_4 : decode jdk_52_method_15_code 4 = .ok (.bipush 31, 2) := by decide +kernel
theorem own_dcdr_1_6 : decode jdk_52_method_15_code 6 = .ok (.iushr, 1) := by decide +kernel
theorem own_dcdr_1_7 : decode jdk_52_method_15_code 7 = .ok (.i2b, 1) := by decide +kernel
theorem own_dcdr_1_8 : decode jdk_52_method_15_code 8 = .ok (.ireturn, 1) := by decide +kernel
theorem own_efcdr_1 (m : MethodId) (x0 : Addr) (x1 : Int32) : entryFrame m #[(.ref x0), (.int x1)] 2 = mkF m 0 #[rv x0, iv x1] [] := by first | (simp [entryFrame, mkF, argsToLocals, Value.category]; done) | rfl
def own_Qcdr_1 (Z : State) (a1 : Addr) (ka : ClassId) (ch0 : Int32) (h0 : Heap) (n0 : Nat) : Option Value → Heap → List Loc → Prop := fun v h L => v = some (.int 0) ∧ Fr n0 L ∧ h = h0
def own_Rcdr_1 : Room := { frames := 0, cells := 0, slots := 0, locals := 0 }
set_option maxRecDepth 65536 in
set_option maxHeartbeats 40000000 in
theorem own_rmcdr_1 (l : Launch) (Z : State) (a0 : Array Value) (hw : ∀ d ∈ tables_1, d.before a0 Z = true) (ws : List Jvm.Cond) (a1 : Addr) (ka : ClassId) (ch0 : Int32) (h0 : Heap) (n0 : Nat) (Z0 : n0 ≤ h0.size) (V1 : Arv Z h0 a1 ka .byte (1 : Int32) [(.int (own_by ch0))] (.int 0)) :
    own_Met l Z own_y2 jdk_52_method_15_code 2 (some .byte) ws own_Rcdr_1 h0 #[(.ref a1), (.int 1)] (own_Qcdr_1 Z a1 ka ch0 h0 n0) own_Rcdr_1.cells own_Rcdr_1.slots := by
  refine own_start (plainFor_of_name own_pn0) ?_
  intro p e s m below meth c s₁ X0 hx hZ hby hml hret hlk hown hnm e0
  have hown : s.vm.findClass "java/lang/StringUTF16" = some m.cls := hown
  have hml : c.maxLocals = 2 := hml
  have N0 := Fr.nil n0
  refine own_cast (own_efcdr_1 m a1 (1 : Int32)) ?_
  refine own_s s₁ (mkF m 2 #[rv a1, iv 1] [(.ref a1), (.int 1)]) (fun _ k => XS.iloadN X0.here hx rfl (hb hby own_dcdr_1_0) rfl  (XS.aloadN X0.here hx rfl (hb hby own_dcdr_1_1) rfl rfl k)) ?_
  obtain ⟨cl1, Ar1, q1, S1, Nn1, H1, G1⟩ := id V1
  refine own_s s₁ (mkF m 8 #[rv a1, iv 1] [(.int ((((0 : Int32).toUInt32 >>> ((31 : Int32) &&& 31).toUInt32).toInt32).toInt8.toInt32))]) (fun _ k => own_len X0 hx hZ e0 Ar1 S1 Nn1 (g := (mkF m 2 #[rv a1, iv 1] [(.ref a1), (.int 1)])) rfl rfl (hb hby own_dcdr_1_2) (XS.isub X0.here hx rfl (hb hby own_dcdr_1_3) rfl (XS.bipush X0.here hx rfl (hb hby own_dcdr_1_4) (XS.iushr X0.here hx rfl (hb hby own_dcdr_1_6) rfl (XS.i2b X0.here hx rfl (hb hby own_dcdr_1_7) rfl k))))) ?_
  exact own_finZ X0 hx (t := .byte) hret (by simp) (z' := (0 : Int32)) (by decide) (hb hby own_dcdr_1_8) (own_end (Qv := (own_Qcdr_1 Z a1 ka ch0 h0 n0)) X0 (own_some hret) hlk (by decide) (by decide) e0 ⟨rfl, N0, rfl⟩)
theorem own_pd1 : parseMethodDescriptor "([CII)[B" = some ⟨[(.array .char), .int, .int], some (.array .byte)⟩ := by decide +kernel
theorem own_pd2 : parseMethodDescriptor "([BI)B" = some ⟨[(.array .byte), .int], some .byte⟩ := by decide +kernel
abbrev own_y3 : MethodName := ⟨"java/lang/String", "<init>", "([CIILjava/lang/Void;)V"⟩
theorem own_pn1 : plainName "java/lang/String" = true := by first | (simp [plainName, overriddenIn]; done) | decide +kernel
theorem own_dsi4_1_0 : decode jdk_42_method_149_code 0 = .ok (.aload_n 0, 1) := by decide +kernel
theorem own_dsi4_1_1 : decode jdk_42_method_149_code 1 = .ok (.invokespecial 1, 3) := by decide +kernel
theorem own_dsi4_1_4 : decode jdk_42_method_149_code 4 = .ok (.iload_n 3, 1) := by decide +kernel
theorem own_dsi4_1_5 : decode jdk_42_method_149_code 5 = .ok (.ifCond .ne 22, 3) := by decide +kernel
theorem own_dsi4_1_27 : decode jdk_42_method_149_code 27 = .ok (.getstatic 38, 3) := by decide +kernel
theorem own_dsi4_1_30 : decode jdk_42_method_149_code 30 = .ok (.ifCond .eq 28, 3) := by decide +kernel
theorem own_dsi4_1_33 : decode jdk_42_method_149_code 33 = .ok (.aload_n 1, 1) := by decide +kernel
theorem own_dsi4_1_34 : decode jdk_42_method_149_code 34 = .ok (.iload_n 2, 1) := by decide +kernel
theorem own_dsi4_1_35 : decode jdk_42_method_149_code 35 = .ok (.iload_n 3, 1) := by decide +kernel
theorem own_dsi4_1_36 : decode jdk_42_method_149_code 36 = .ok (.invokestatic 177, 3) := by decide +kernel
theorem own_dsi4_1_39 : decode jdk_42_method_149_code 39 = .ok (.astore 5, 2) := by decide +kernel
theorem own_dsi4_1_41 : decode jdk_42_method_149_code 41 = .ok (.aload_n 0, 1) := by decide +kernel
theorem own_dsi4_1_42 : decode jdk_42_method_149_code 42 = .ok (.aload 5, 2) := by decide +kernel
theorem own_dsi4_1_44 : decode jdk_42_method_149_code 44 = .ok (.iload_n 3, 1) := by decide +kernel
theorem own_dsi4_1_45 : decode jdk_42_method_149_code 45 = .ok (.invokestatic 47, 3) := by decide +kernel
theorem own_dsi4_1_48 : decode jdk_42_method_149_code 48 = .ok (.putfield 15, 3) := by decide +kernel
theorem own_dsi4_1_51 : decode jdk_42_method_149_code 51 = .ok (.aload_n 0, 1) := by decide +kernel
theorem own_dsi4_1_52 : decode jdk_42_method_149_code 52 = .ok (.aload 5, 2) := by decide +kernel
theorem own_dsi4_1_54 : decode jdk_42_method_149_code 54 = .ok (.putfield 9, 3) := by decide +kernel
theorem own_dsi4_1_57 : decode jdk_42_method_149_code 57 = .ok (.return_, 1) := by decide +kernel
theorem own_efsi4_1 (m : MethodId) (x0 : Addr) (x1 : Addr) (x2 : Int32) (x3 : Int32) : entryFrame m #[(.ref x0), (.ref x1), (.int x2), (.int x3), .null] 6 = mkF m 0 #[rv x0, rv x1, iv x2, iv x3, .val .null, u_] [] := by first | (simp [entryFrame, mkF, argsToLocals, Value.category]; done) | rfl
def own_Qsi4_1 (Z : State) (a1 : Addr) (a2 : Addr) (kb : ClassId) (gC : Int32) (ch0 : Int32) (h0 : Heap) (n0 : Nat) : Option Value → Heap → List Loc → Prop := fun v h L => v = none ∧ Fr n0 L ∧ Keep h0 h [a1] ∧ Exa Z h a1 "java/lang/String" ∧ Fld Z h a1 "java/lang/String" "coder" "B" (.int 0) ∧ ∃ (b : Addr) (k : ClassId), n0 ≤ b ∧ h0.size ≤ b ∧ Fld Z h a1 "java/lang/String" "value" "[B" (.ref b) ∧ Arv Z h b k .byte (1 : Int32) [(.int (own_by ch0))] (.int 0)
def own_Rsi4_1 : Room := { frames := 2, cells := 1, slots := 1, locals := 35 }
set_option maxRecDepth 65536 in
set_option maxHeartbeats 40000000 in
theorem own_rmsi4_1 (l : Launch) (Z : State) (a0 : Array Value) (hw : ∀ d ∈ tables_1, d.before a0 Z = true) (ws : List Jvm.Cond) (a1 : Addr) (a2 : Addr) (kb : ClassId) (gC : Int32) (ch0 : Int32) (h0 : Heap) (n0 : Nat) (Z0 : n0 ≤ h0.size) (g_a1 : n0 ≤ a1) (E1 : Exa Z h0 a1 "java/lang/String") (C1 : Fld Z h0 a1 "java/lang/String" "coder" "B" (.int 0)) (W1 : Fld Z h0 a1 "java/lang/String" "value" "[B" .null) (V2 : Arv Z h0 a2 kb .char (1 : Int32) [(.int ch0)] (.int 0)) (hne : a2 ≠ a1) (SC : Sta Z h0 "java/lang/String" "COMPACT_STRINGS" "Z" (.int gC)) (hG : ¬ gC = (0 : Int32)) (hc0 : ¬ (255 : Int32) < ch0) :
    own_Met l Z own_y3 jdk_42_method_149_code 6 none ws own_Rsi4_1 h0 #[(.ref a1), (.ref a2), (.int 0), (.int 1), .null] (own_Qsi4_1 Z a1 a2 kb gC ch0 h0 n0) own_Rsi4_1.cells own_Rsi4_1.slots := by
  refine own_start (plainFor_of_name own_pn1) ?_
  intro p e s m below meth c s₁ X0 hx hZ hby hml hret hlk hown hnm e0
  have hown : s.vm.findClass "java/lang/String" = some m.cls := hown
  have hml : c.maxLocals = 6 := hml
  have N0 := Fr.nil n0
  refine own_cast (own_efsi4_1 m a1 a2 (0 : Int32) (1 : Int32)) ?_
  refine own_s s₁ (mkF m 1 #[rv a1, rv a2, iv 0, iv 1, .val .null, u_] [(.ref a1)]) (fun _ k => XS.aloadN X0.here hx rfl (hb hby own_dsi4_1_0) rfl rfl k) ?_
  obtain ⟨T1, X1, e1, st1⟩ := initO X0 hx hZ hown (own_h hw 15 rfl) (own_h hw 16 rfl) (own_h hw 17 rfl) e0 (g := (mkF m 1 #[rv a1, rv a2, iv 0, iv 1, .val .null, u_] [(.ref a1)])) rfl (by rw [hml]; rfl) rfl (hb hby own_dsi4_1_1) (by decide) (W := 0) (by show 2 * 0 + _ ≤ _; exact Nat.le_of_eq rfl) (by decide)
  refine own_s T1 (mkF m 4 #[rv a1, rv a2, iv 0, iv 1, .val .null, u_] []) st1 ?_
  refine own_s T1 (mkF m 27 #[rv a1, rv a2, iv 0, iv 1, .val .null, u_] []) (fun _ k => XS.iloadN X1.here hx rfl (hb hby own_dsi4_1_4) rfl  (XS.ifYes X1.here hx rfl (pc0 := 5) (pc' := 27) rfl (hb hby own_dsi4_1_5) rfl ((if0 _ _).trans (feq (by decide : ¬ ((1 : Int32) = (0 : Int32)))).2) (by decide) (by decide) k)) ?_
  obtain ⟨T2, X2, e2, st2⟩ := getS2 X1 hx hZ hown (host := "") (Or.inl (own_h hw 18 rfl)) Via.refl e1 SC (g := (mkF m 27 #[rv a1, rv a2, iv 0, iv 1, .val .null, u_] [])) rfl (hb hby own_dsi4_1_27)
  refine own_s T2 (mkF m 30 #[rv a1, rv a2, iv 0, iv 1, .val .null, u_] [(.int gC)]) st2 ?_
  refine own_s T2 (mkF m 36 #[rv a1, rv a2, iv 0, iv 1, .val .null, u_] [(.int 1), (.int 0), (.ref a2)]) (fun _ k => XS.ifNo X2.here hx rfl (hb hby own_dsi4_1_30) rfl ((if0 _ _).trans (feq hG).1) (XS.aloadN X2.here hx rfl (hb hby own_dsi4_1_33) rfl rfl (XS.iloadN X2.here hx rfl (hb hby own_dsi4_1_34) rfl  (XS.iloadN X2.here hx rfl (hb hby own_dsi4_1_35) rfl  k)))) ?_
  obtain ⟨v3, T3, L3, X3, hQ3, st3⟩ := own_callS X2 hx hZ (y := own_y1) (W := 0) hown (own_h hw 19 rfl) (own_h hw 20 rfl) (own_h hw 21 rfl) (own_h hw 22 rfl) (by decide) (own_rmz3_1 l Z a0 hw [] a2 kb ch0 h0 n0 Z0 V2 hc0) (by decide) (by decide) (g := (mkF m 36 #[rv a1, rv a2, iv 0, iv 1, .val .null, u_] [(.int 1), (.int 0), (.ref a2)])) rfl (by rw [hml]; rfl) (argsL := [(.ref a2), (.int 0), (.int 1)]) (rest := []) rfl (lenOf own_pd1 rfl) rfl (by show 2 * 0 + _ ≤ _; exact Nat.le_of_eq rfl) (hb hby own_dsi4_1_36) e2 (by decide) (by decide)
  obtain ⟨⟨b3, k3, rfl, g_b3, sq3, Vq3⟩, Nq3, Kq3⟩ := hQ3
  have N3 := Fr.app N0 Nq3
  have ne_a1_b3 : a1 ≠ b3 := Nat.ne_of_lt (Nat.lt_of_lt_of_le E1.lt sq3)
  have ne_a2_b3 : a2 ≠ b3 := Nat.ne_of_lt (Nat.lt_of_lt_of_le V2.lt sq3)
  have sz_b3 : h0.size ≤ b3 := Nat.le_trans (Keep.refl h0 [a1]).1 sq3
  have f4 := E1.keep Kq3
  have f5 := C1.keep Kq3 nin0
  have f6 := W1.keep Kq3 nin0
  have f7 := V2.keep Kq3 nin0
  have f8 := own_staKeep SC Kq3
  have K3 : Keep h0 T3.heap [a1] := (Keep.refl h0 [a1]).trans Kq3 all0
  have Z3 := Nat.le_trans Z0 Kq3.1
  refine own_s T3 (mkF m 39 #[rv a1, rv a2, iv 0, iv 1, .val .null, u_] [(.ref b3)]) st3 ?_
  refine own_s T3 (mkF m 45 #[rv a1, rv a2, iv 0, iv 1, .val .null, rv b3] [(.int 1), (.ref b3), (.ref a1)]) (fun _ k => XS.astore X3.here hx rfl (hb hby own_dsi4_1_39) rfl rfl (l' := #[rv a1, rv a2, iv 0, iv 1, .val .null, rv b3]) rfl (XS.aloadN X3.here hx rfl (hb hby own_dsi4_1_41) rfl rfl (XS.aload X3.here hx rfl (hb hby own_dsi4_1_42) rfl rfl (XS.iloadN X3.here hx rfl (hb hby own_dsi4_1_44) rfl  k)))) ?_
  obtain ⟨v9, T9, L9, X9, hQ9, st9⟩ := own_callS X3 hx hZ (y := own_y2) (W := 1) hown (own_h hw 27 rfl) (own_h hw 28 rfl) (own_h hw 21 rfl) (own_h hw 29 rfl) (by decide) (own_rmcdr_1 l Z a0 hw [] b3 k3 ch0 T3.heap n0 Z3 Vq3) (by decide) (by decide) (g := (mkF m 45 #[rv a1, rv a2, iv 0, iv 1, .val .null, rv b3] [(.int 1), (.ref b3), (.ref a1)])) rfl (by rw [hml]; rfl) (argsL := [(.ref b3), (.int 1)]) (rest := [(.ref a1)]) rfl (lenOf own_pd2 rfl) rfl (by show 2 * 0 + _ ≤ _; exact Nat.le_of_eq rfl) (hb hby own_dsi4_1_45) rfl (by decide) (by decide)
  obtain ⟨rfl, Nq9, e9⟩ := hQ9
  have N9 := Fr.app N3 Nq9
  refine own_s T9 (mkF m 48 #[rv a1, rv a2, iv 0, iv 1, .val .null, rv b3] [(.int 0), (.ref a1)]) st9 ?_
  obtain ⟨T10, h10, X10, e10, W10, st10⟩ := putFN X9 hx hZ hown (own_h hw 30 rfl) Via.refl e9 f5 f4 (Or.inr ⟨(own_h hw 31 rfl), rfl, hnm⟩) (own_h hw 5 rfl) (ty := .byte) (v' := (.int 0)) (by decide) rfl rfl (g := (mkF m 48 #[rv a1, rv a2, iv 0, iv 1, .val .null, rv b3] [(.int 0), (.ref a1)])) rfl rfl (hb hby own_dsi4_1_48)
  have Fw10 := Fld.same W10 f5
  have f11 := Exa.wr W10 f4
  have f12 := Fld.other W10 f6 (Or.inr (slot_ne (Or.inr (own_h hw 33 rfl)) (Or.inr (own_h hw 31 rfl)) (by decide) (t := (.array .byte)) (t' := .byte) (by decide) (by decide)))
  have f13 := f7.other W10 hne
  have f14 := Sta.wr W10 f8
  have f15 := Vq3.other W10 (Ne.symm ne_a1_b3)
  have K10 : Keep h0 h10 [a1] := K3.wr W10 (Or.inl (List.mem_of_getElem? (i := 0) rfl))
  have Z10 := Nat.le_trans Z3 (Nat.le_of_eq W10.size.symm)
  have N10 := Fr.snoc X10 N9 g_a1
  refine own_s T10 (mkF m 51 #[rv a1, rv a2, iv 0, iv 1, .val .null, rv b3] []) st10 ?_
  refine own_s T10 (mkF m 54 #[rv a1, rv a2, iv 0, iv 1, .val .null, rv b3] [(.ref b3), (.ref a1)]) (fun _ k => XS.aloadN X10.here hx rfl (hb hby own_dsi4_1_51) rfl rfl (XS.aload X10.here hx rfl (hb hby own_dsi4_1_52) rfl rfl k)) ?_
  obtain ⟨T16, h16, X16, e16, W16, st16⟩ := putF X10 hx hZ hown (host := "") (Or.inl (own_h hw 32 rfl)) Via.refl e10 f12 f11 (Or.inr ⟨(own_h hw 33 rfl), rfl, hnm⟩) (own_h hw 5 rfl) (ty := (.array .byte)) (by decide) rfl rfl (g := (mkF m 54 #[rv a1, rv a2, iv 0, iv 1, .val .null, rv b3] [(.ref b3), (.ref a1)])) rfl rfl (hb hby own_dsi4_1_54)
  have Fw16 := Fld.same W16 f12
  have f17 := Exa.wr W16 f11
  have f18 := Fld.other W16 Fw10 (Or.inr (slot_ne (Or.inr (own_h hw 31 rfl)) (Or.inr (own_h hw 33 rfl)) (by decide) (t := .byte) (t' := (.array .byte)) (by decide) (by decide)))
  have f19 := f13.other W16 hne
  have f20 := Sta.wr W16 f14
  have f21 := f15.other W16 (Ne.symm ne_a1_b3)
  have K16 : Keep h0 h16 [a1] := K10.wr W16 (Or.inl (List.mem_of_getElem? (i := 0) rfl))
  have Z16 := Nat.le_trans Z10 (Nat.le_of_eq W16.size.symm)
  have N16 := Fr.snoc X16 N10 g_a1
  refine own_s T16 (mkF m 57 #[rv a1, rv a2, iv 0, iv 1, .val .null, rv b3] []) st16 ?_
  exact own_finV X16 hx hret (hb hby own_dsi4_1_57) (own_end (Qv := (own_Qsi4_1 Z a1 a2 kb gC ch0 h0 n0)) X16 (fun _ => rfl) hlk (by decide) (by decide) e16 ⟨rfl, N16, K16, f17, f18, b3, _, g_b3, sz_b3, Fw16, f21⟩)
theorem own_pd3 : parseMethodDescriptor "([CIILjava/lang/Void;)V" = some ⟨[(.array .char), .int, .int, (.object "java/lang/Void")], none⟩ := by decide +kernel
abbrev own_y4 : MethodName := ⟨"java/lang/String", "<init>", "([C)V"⟩
theorem own_dsi1_1_0 : decode jdk_42_method_3_code 0 = .ok (.aload_n 0, 1) := by decide +kernel
theorem own_dsi1_1_1 : decode jdk_42_method_3_code 1 = .ok (.aload_n 1, 1) := by decide +kernel
theorem own_dsi1_1_2 : decode jdk_42_method_3_code 2 = .ok (.iconst 0, 1) := by decide +kernel
theorem own_dsi1_1_3 : decode jdk_42_method_3_code 3 = .ok (.aload_n 1, 1) := by decide +kernel
theorem own_dsi1_1_4 : decode jdk_42_method_3_code 4 = .ok (.arraylength, 1) := by decide +kernel
theorem own_dsi1_1_5 : decode jdk_42_method_3_code 5 = .ok (.aconst_null, 1) := by decide +kernel
theorem own_dsi1_1_6 : decode jdk_42_method_3_code 6 = .ok (.invokespecial 27, 3) := by decide +kernel
theorem own_dsi1_1_9 : decode jdk_42_method_3_code 9 = .ok (.return_, 1) := by decide +kernel
theorem own_efsi1_1 (m : MethodId) (x0 : Addr) (x1 : Addr) : entryFrame m #[(.ref x0), (.ref x1)] 2 = mkF m 0 #[rv x0, rv x1] [] := by first | (simp [entryFrame, mkF, argsToLocals, Value.category]; done) | rfl
def own_Qsi1_1 (Z : State) (a1 : Addr) (a2 : Addr) (kb : ClassId) (gC : Int32) (ch0 : Int32) (h0 : Heap) (n0 : Nat) : Option Value → Heap → List Loc → Prop := fun v h L => v = none ∧ Fr n0 L ∧ Keep h0 h [a1] ∧ Exa Z h a1 "java/lang/String" ∧ Fld Z h a1 "java/lang/String" "coder" "B" (.int 0) ∧ ∃ (b : Addr) (k : ClassId), n0 ≤ b ∧ h0.size ≤ b ∧ Fld Z h a1 "java/lang/String" "value" "[B" (.ref b) ∧ Arv Z h b k .byte (1 : Int32) [(.int (own_by ch0))] (.int 0)
def own_Rsi1_1 : Room := { frames := 3, cells := 1, slots := 1, locals := 52 }
set_option maxRecDepth 65536 in
set_option maxHeartbeats 40000000 in
theorem own_rmsi1_1 (l : Launch) (Z : State) (a0 : Array Value) (hw : ∀ d ∈ tables_1, d.before a0 Z = true) (ws : List Jvm.Cond) (a1 : Addr) (a2 : Addr) (kb : ClassId) (gC : Int32) (ch0 : Int32) (h0 : Heap) (n0 : Nat) (Z0 : n0 ≤ h0.size) (g_a1 : n0 ≤ a1) (E1 : Exa Z h0 a1 "java/lang/String") (C1 : Fld Z h0 a1 "java/lang/String" "coder" "B" (.int 0)) (W1 : Fld Z h0 a1 "java/lang/String" "value" "[B" .null) (V2 : Arv Z h0 a2 kb .char (1 : Int32) [(.int ch0)] (.int 0)) (hne : a2 ≠ a1) (SC : Sta Z h0 "java/lang/String" "COMPACT_STRINGS" "Z" (.int gC)) (hG : ¬ gC = (0 : Int32)) (hc0 : ¬ (255 : Int32) < ch0) :
    own_Met l Z own_y4 jdk_42_method_3_code 2 none ws own_Rsi1_1 h0 #[(.ref a1), (.ref a2)] (own_Qsi1_1 Z a1 a2 kb gC ch0 h0 n0) own_Rsi1_1.cells own_Rsi1_1.slots := by
  refine own_start (plainFor_of_name own_pn1) ?_
  intro p e s m below meth c s₁ X0 hx hZ hby hml hret hlk hown hnm e0
  have hown : s.vm.findClass "java/lang/String" = some m.cls := hown
  have hml : c.maxLocals = 2 := hml
  have N0 := Fr.nil n0
  refine own_cast (own_efsi1_1 m a1 a2) ?_
  refine own_s s₁ (mkF m 4 #[rv a1, rv a2] [(.ref a2), (.int 0), (.ref a2), (.ref a1)]) (fun _ k => XS.aloadN X0.here hx rfl (hb hby own_dsi1_1_0) rfl rfl (XS.aloadN X0.here hx rfl (hb hby own_dsi1_1_1) rfl rfl (XS.iconst X0.here hx rfl (hb hby own_dsi1_1_2) (XS.aloadN X0.here hx rfl (hb hby own_dsi1_1_3) rfl rfl k)))) ?_
  obtain ⟨cl1, Ar1, q1, S1, Nn1, H1, G1⟩ := id V2
  refine own_s s₁ (mkF m 6 #[rv a1, rv a2] [.null, (.int 1), (.int 0), (.ref a2), (.ref a1)]) (fun _ k => own_len X0 hx hZ e0 Ar1 S1 Nn1 (g := (mkF m 4 #[rv a1, rv a2] [(.ref a2), (.int 0), (.ref a2), (.ref a1)])) rfl rfl (hb hby own_dsi1_1_4) (XS.aconstNull X0.here hx rfl (hb hby own_dsi1_1_5) k)) ?_
  obtain ⟨v2, T2, L2, X2, hQ2, st2⟩ := own_callI X0 hx hZ (y := own_y3) (W := 0) (a := a1) rfl hown (own_h hw 11 rfl) (own_h hw 12 rfl) (own_h hw 6 rfl) (own_h hw 14 rfl) (by decide) (own_rmsi4_1 l Z a0 hw [] a1 a2 kb gC ch0 h0 n0 Z0 g_a1 E1 C1 W1 V2 hne SC hG hc0) (by decide) (by decide) (g := (mkF m 6 #[rv a1, rv a2] [.null, (.int 1), (.int 0), (.ref a2), (.ref a1)])) rfl (by rw [hml]; rfl) (argsL := [(.ref a2), (.int 0), (.int 1), .null]) (rest := []) rfl (lenOf own_pd3 rfl) rfl (by show 2 * 0 + _ ≤ _; exact Nat.le_of_eq rfl) (hb hby own_dsi1_1_6) e0 (by decide) (by decide)
  obtain ⟨rfl, Nq2, Kq2, Eq2, Cq2, b2, k2, g_b2, sq2, Wq2, Vq2⟩ := hQ2
  have N2 := Fr.app N0 Nq2
  have ne_a1_b2 : a1 ≠ b2 := Nat.ne_of_lt (Nat.lt_of_lt_of_le E1.lt sq2)
  have ne_a2_b2 : a2 ≠ b2 := Nat.ne_of_lt (Nat.lt_of_lt_of_le V2.lt sq2)
  have sz_b2 : h0.size ≤ b2 := Nat.le_trans (Keep.refl h0 [a1]).1 sq2
  have f3 := V2.keep Kq2 (ninS hne nin0)
  have f4 := own_staKeepW SC Kq2 (allS E1.nostat all0)
  have K2 : Keep h0 T2.heap [a1] := (Keep.refl h0 [a1]).trans Kq2 (allS (Or.inl (List.mem_of_getElem? (i := 0) rfl)) all0)
  have Z2 := Nat.le_trans Z0 Kq2.1
  refine own_s T2 (mkF m 9 #[rv a1, rv a2] []) st2 ?_
  exact own_finV X2 hx hret (hb hby own_dsi1_1_9) (own_end (Qv := (own_Qsi1_1 Z a1 a2 kb gC ch0 h0 n0)) X2 (fun _ => rfl) hlk (by decide) (by decide) rfl ⟨rfl, N2, K2, Eq2, Cq2, b2, _, g_b2, sz_b2, Wq2, Vq2⟩)
theorem own_dz5_2_0 : decode jdk_52_method_21_code 0 = .ok (.iconst 0, 1) := by decide +kernel
theorem own_dz5_2_1 : decode jdk_52_method_21_code 1 = .ok (.istore 5, 2) := by decide +kernel
theorem own_dz5_2_3 : decode jdk_52_method_21_code 3 = .ok (.iload 5, 2) := by decide +kernel
theorem own_dz5_2_5 : decode jdk_52_method_21_code 5 = .ok (.iload 4, 2) := by decide +kernel
theorem own_dz5_2_7 : decode jdk_52_method_21_code 7 = .ok (.if_icmp .ge 37, 3) := by decide +kernel
theorem own_dz5_2_10 : decode jdk_52_method_21_code 10 = .ok (.aload_n 0, 1) := by decide +kernel
theorem own_dz5_2_11 : decode jdk_52_method_21_code 11 = .ok (.iload_n 1, 1) := by decide +kernel
theorem own_dz5_2_12 : decode jdk_52_method_21_code 12 = .ok (.caload, 1) := by decide +kernel
theorem own_dz5_2_13 : decode jdk_52_method_21_code 13 = .ok (.istore 6, 2) := by decide +kernel
theorem own_dz5_2_15 : decode jdk_52_method_21_code 15 = .ok (.iload 6, 2) := by decide +kernel
theorem own_dz5_2_17 : decode jdk_52_method_21_code 17 = .ok (.sipush 255, 3) := by decide +kernel
theorem own_dz5_2_20 : decode jdk_52_method_21_code 20 = .ok (.if_icmp .le 6, 3) := by decide +kernel
theorem own_dz5_2_26 : decode jdk_52_method_21_code 26 = .ok (.aload_n 2, 1) := by decide +kernel
theorem own_dz5_2_27 : decode jdk_52_method_21_code 27 = .ok (.iload_n 3, 1) := by decide +kernel
theorem own_dz5_2_28 : decode jdk_52_method_21_code 28 = .ok (.iload 6, 2) := by decide +kernel
theorem own_dz5_2_30 : decode jdk_52_method_21_code 30 = .ok (.i2b, 1) := by decide +kernel
theorem own_dz5_2_31 : decode jdk_52_method_21_code 31 = .ok (.bastore, 1) := by decide +kernel
theorem own_dz5_2_32 : decode jdk_52_method_21_code 32 = .ok (.iinc 1 1, 3) := by decide +kernel
theorem own_dz5_2_35 : decode jdk_52_method_21_code 35 = .ok (.iinc 3 1, 3) := by decide +kernel
theorem own_dz5_2_38 : decode jdk_52_method_21_code 38 = .ok (.iinc 5 1, 3) := by decide +kernel
theorem own_dz5_2_41 : decode jdk_52_method_21_code 41 = .ok (.goto (-38), 3) := by decide +kernel
theorem own_dz5_2_44 : decode jdk_52_method_21_code 44 = .ok (.iload 4, 2) := by decide +kernel
theorem own_dz5_2_46 : decode jdk_52_method_21_code 46 = .ok (.ireturn, 1) := by decide +kernel
theorem own_efz5_2 (m : MethodId) (x0 : Addr) (x1 : Int32) (x2 : Addr) (x3 : Int32) (x4 : Int32) : entryFrame m #[(.ref x0), (.int x1), (.ref x2), (.int x3), (.int x4)] 7 = mkF m 0 #[rv x0, iv x1, rv x2, iv x3, iv x4, u_, u_] [] := by first | (simp [entryFrame, mkF, argsToLocals, Value.category]; done) | rfl
def own_Qz5_2 (Z : State) (a1 : Addr) (a3 : Addr) (ka : ClassId) (kc : ClassId) (ch0 ch1 : Int32) (h0 : Heap) (n0 : Nat) : Option Value → Heap → List Loc → Prop := fun v h L => v = some (.int 2) ∧ Fr n0 L ∧ Keep h0 h [a3] ∧ Arv Z h a3 kc .byte (2 : Int32) [(.int (own_by ch0)), (.int (own_by ch1))] (.int 0)
def own_Rz5_2 : Room := { frames := 0, cells := 0, slots := 0, locals := 0 }
set_option maxRecDepth 65536 in
set_option maxHeartbeats 40000000 in
theorem own_rmz5_2 (l : Launch) (Z : State) (a0 : Array Value) (hw : ∀ d ∈ tables_1, d.before a0 Z = true) (ws : List Jvm.Cond) (a1 : Addr) (a3 : Addr) (ka : ClassId) (kc : ClassId) (ch0 ch1 : Int32) (h0 : Heap) (n0 : Nat) (Z0 : n0 ≤ h0.size) (V1 : Arv Z h0 a1 ka .char (2 : Int32) [(.int ch0), (.int ch1)] (.int 0)) (V3 : Arv Z h0 a3 kc .byte (2 : Int32) [(.int 0), (.int 0)] (.int 0)) (hne : a1 ≠ a3) (g_a3 : n0 ≤ a3) (hc0 : ¬ (255 : Int32) < ch0) (hc1 : ¬ (255 : Int32) < ch1) :
    own_Met l Z own_y0 jdk_52_method_21_code 7 (some .int) ws own_Rz5_2 h0 #[(.ref a1), (.int 0), (.ref a3), (.int 0), (.int 2)] (own_Qz5_2 Z a1 a3 ka kc ch0 ch1 h0 n0) own_Rz5_2.cells own_Rz5_2.slots := by
  refine own_start (plainFor_of_name own_pn0) ?_
  intro p e s m below meth c s₁ X0 hx hZ hby hml hret hlk hown hnm e0
  have hown : s.vm.findClass "java/lang/StringUTF16" = some m.cls := hown
  have hml : c.maxLocals = 7 := hml
  have N0 := Fr.nil n0
  refine own_cast (own_efz5_2 m a1 (0 : Int32) a3 (0 : Int32) (2 : Int32)) ?_
  refine own_s s₁ (mkF m 10 #[rv a1, iv 0, rv a3, iv 0, iv 2, iv 0, u_] []) (fun _ k => XS.iconst X0.here hx rfl (hb hby own_dz5_2_0) (XS.istore X0.here hx rfl (hb hby own_dz5_2_1) rfl (l' := #[rv a1, iv 0, rv a3, iv 0, iv 2, iv 0, u_]) rfl (XS.iload X0.here hx rfl (hb hby own_dz5_2_3) rfl  (XS.iload X0.here hx rfl (hb hby own_dz5_2_5) rfl  (XS.icmpNo X0.here hx rfl (hb hby own_dz5_2_7) rfl (tlt (by decide : ((0 : Int32) < (2 : Int32)))).2.1 k))))) ?_
  refine own_s s₁ (mkF m 12 #[rv a1, iv 0, rv a3, iv 0, iv 2, iv 0, u_] [(.int 0), (.ref a1)]) (fun _ k => XS.aloadN X0.here hx rfl (hb hby own_dz5_2_10) rfl rfl (XS.iloadN X0.here hx rfl (hb hby own_dz5_2_11) rfl  k)) ?_
  obtain ⟨cl1, Ar1, q1, S1, Nn1, H1, G1⟩ := id V1
  have hin1 : ¬ ((0 : Int32) < 0 ∨ cl1.slots.size ≤ ((0 : Int32)).toNatClampNeg) := (inb_of S1 ⟨by decide, by decide⟩)
  refine own_s s₁ (mkF m 26 #[rv a1, iv 0, rv a3, iv 0, iv 2, iv 0, iv ch0] []) (fun _ k => X0.caload hx (j := (0 : Int32)) (v := (.int ch0)) (own_at e0 Ar1.1) (State.isArrayOf_alike hZ.alike Ar1.2.1) Ar1.2.2 hin1 (Has.at H1 hin1 rfl) (g := (mkF m 12 #[rv a1, iv 0, rv a3, iv 0, iv 2, iv 0, u_] [(.int 0), (.ref a1)])) rfl rfl (hb hby own_dz5_2_12) _ (XS.istore X0.here hx rfl (hb hby own_dz5_2_13) rfl (l' := #[rv a1, iv 0, rv a3, iv 0, iv 2, iv 0, iv ch0]) rfl (XS.iload X0.here hx rfl (hb hby own_dz5_2_15) rfl  (XS.sipush X0.here hx rfl (hb hby own_dz5_2_17) (XS.icmpYes X0.here hx rfl (pc0 := 20) (pc' := 26) rfl (hb hby own_dz5_2_20) rfl (flt hc0).2.2.2 (by decide) (by decide) k))))) ?_
  refine own_s s₁ (mkF m 31 #[rv a1, iv 0, rv a3, iv 0, iv 2, iv 0, iv ch0] [(.int (ch0.toInt8.toInt32)), (.int 0), (.ref a3)]) (fun _ k => XS.aloadN X0.here hx rfl (hb hby own_dz5_2_26) rfl rfl (XS.iloadN X0.here hx rfl (hb hby own_dz5_2_27) rfl  (XS.iload X0.here hx rfl (hb hby own_dz5_2_28) rfl  (XS.i2b X0.here hx rfl (hb hby own_dz5_2_30) rfl k)))) ?_
  obtain ⟨cl2, Ar2, q2, S2, Nn2, H2, G2⟩ := id V3
  have hin2 : ¬ ((0 : Int32) < 0 ∨ cl2.slots.size ≤ ((0 : Int32)).toNatClampNeg) := (inb_of S2 ⟨by decide, by decide⟩)
  obtain ⟨T2, h2, X2, e2, W2, st2⟩ := stB X0 hx hZ e0 Ar2 (j := (0 : Int32)) hin2 (g := (mkF m 31 #[rv a1, iv 0, rv a3, iv 0, iv 2, iv 0, iv ch0] [(.int (ch0.toInt8.toInt32)), (.int 0), (.ref a3)])) rfl rfl (hb hby own_dz5_2_31)
  have f2 : Arv Z h2 a3 kc .byte (2 : Int32) [(.int (own_by ch0)), (.int 0)] (.int 0) := Arv.set Ar2 q2 S2 Nn2 H2 G2 (fits_nar_byte _) W2 0 rfl (Nat.le_of_ble_eq_true rfl)
  have f3 := V1.other W2 hne
  have K2 : Keep h0 h2 [a3] := (Keep.refl h0 [a3]).wr W2 (Or.inl (List.mem_of_getElem? (i := 0) rfl))
  have Z2 := Nat.le_trans Z0 (Nat.le_of_eq W2.size.symm)
  have N2 := Fr.snoc X2 N0 g_a3
  refine own_s T2 (mkF m 32 #[rv a1, iv 0, rv a3, iv 0, iv 2, iv 0, iv ch0] []) st2 ?_
  refine own_s T2 (mkF m 5 #[rv a1, iv 1, rv a3, iv 1, iv 2, iv 1, iv ch0] [(.int 1)]) (fun _ k => XS.iinc X2.here hx rfl (hb hby own_dz5_2_32) rfl (l' := #[rv a1, iv 1, rv a3, iv 0, iv 2, iv 0, iv ch0]) rfl (XS.iinc X2.here hx rfl (hb hby own_dz5_2_35) rfl (l' := #[rv a1, iv 1, rv a3, iv 1, iv 2, iv 0, iv ch0]) rfl (XS.iinc X2.here hx rfl (hb hby own_dz5_2_38) rfl (l' := #[rv a1, iv 1, rv a3, iv 1, iv 2, iv 1, iv ch0]) rfl (XS.goto X2.here hx rfl (pc0 := 41) (pc' := 3) rfl (hb hby own_dz5_2_41) (by decide) (by decide) (XS.iload X2.here hx rfl (hb hby own_dz5_2_3) rfl  k))))) ?_
  refine own_s T2 (mkF m 12 #[rv a1, iv 1, rv a3, iv 1, iv 2, iv 1, iv ch0] [(.int 1), (.ref a1)]) (fun _ k => XS.iload X2.here hx rfl (hb hby own_dz5_2_5) rfl  (XS.icmpNo X2.here hx rfl (hb hby own_dz5_2_7) rfl (tlt (by decide : ((1 : Int32) < (2 : Int32)))).2.1 (XS.aloadN X2.here hx rfl (hb hby own_dz5_2_10) rfl rfl (XS.iloadN X2.here hx rfl (hb hby own_dz5_2_11) rfl  k)))) ?_
  obtain ⟨cl4, Ar4, q4, S4, Nn4, H4, G4⟩ := id f3
  have hin4 : ¬ ((1 : Int32) < 0 ∨ cl4.slots.size ≤ ((1 : Int32)).toNatClampNeg) := (inb_of S4 ⟨by decide, by decide⟩)
  refine own_s T2 (mkF m 26 #[rv a1, iv 1, rv a3, iv 1, iv 2, iv 1, iv ch1] []) (fun _ k => X2.caload hx (j := (1 : Int32)) (v := (.int ch1)) (own_at e2 Ar4.1) (State.isArrayOf_alike hZ.alike Ar4.2.1) Ar4.2.2 hin4 (Has.at H4 hin4 rfl) (g := (mkF m 12 #[rv a1, iv 1, rv a3, iv 1, iv 2, iv 1, iv ch0] [(.int 1), (.ref a1)])) rfl rfl (hb hby own_dz5_2_12) _ (XS.istore X2.here hx rfl (hb hby own_dz5_2_13) rfl (l' := #[rv a1, iv 1, rv a3, iv 1, iv 2, iv 1, iv ch1]) rfl (XS.iload X2.here hx rfl (hb hby own_dz5_2_15) rfl  (XS.sipush X2.here hx rfl (hb hby own_dz5_2_17) (XS.icmpYes X2.here hx rfl (pc0 := 20) (pc' := 26) rfl (hb hby own_dz5_2_20) rfl (flt hc1).2.2.2 (by decide) (by decide) k))))) ?_
  refine own_s T2 (mkF m 31 #[rv a1, iv 1, rv a3, iv 1, iv 2, iv 1, iv ch1] [(.int (ch1.toInt8.toInt32)), (.int 1), (.ref a3)]) (fun _ k => XS.aloadN X2.here hx rfl (hb hby own_dz5_2_26) rfl rfl (XS.iloadN X2.here hx rfl (hb hby own_dz5_2_27) rfl  (XS.iload X2.here hx rfl (hb hby own_dz5_2_28) rfl  (XS.i2b X2.here hx rfl (hb hby own_dz5_2_30) rfl k)))) ?_
  obtain ⟨cl5, Ar5, q5, S5, Nn5, H5, G5⟩ := id f2
  have hin5 : ¬ ((1 : Int32) < 0 ∨ cl5.slots.size ≤ ((1 : Int32)).toNatClampNeg) := (inb_of S5 ⟨by decide, by decide⟩)
  obtain ⟨T5, h5, X5, e5, W5, st5⟩ := stB X2 hx hZ e2 Ar5 (j := (1 : Int32)) hin5 (g := (mkF m 31 #[rv a1, iv 1, rv a3, iv 1, iv 2, iv 1, iv ch1] [(.int (ch1.toInt8.toInt32)), (.int 1), (.ref a3)])) rfl rfl (hb hby own_dz5_2_31)
  have f5 : Arv Z h5 a3 kc .byte (2 : Int32) [(.int (own_by ch0)), (.int (own_by ch1))] (.int 0) := Arv.set Ar5 q5 S5 Nn5 H5 G5 (fits_nar_byte _) W5 1 rfl (Nat.le_of_ble_eq_true rfl)
  have f6 := f3.other W5 hne
  have K5 : Keep h0 h5 [a3] := K2.wr W5 (Or.inl (List.mem_of_getElem? (i := 0) rfl))
  have Z5 := Nat.le_trans Z2 (Nat.le_of_eq W5.size.symm)
  have N5 := Fr.snoc X5 N2 g_a3
  refine own_s T5 (mkF m 32 #[rv a1, iv 1, rv a3, iv 1, iv 2, iv 1, iv ch1] []) st5 ?_
  refine own_s T5 (mkF m 5 #[rv a1, iv 2, rv a3, iv 2, iv 2, iv 2, iv ch1] [(.int 2)]) (fun _ k => XS.iinc X5.here hx rfl (hb hby own_dz5_2_32) rfl (l' := #[rv a1, iv 2, rv a3, iv 1, iv 2, iv 1, iv ch1]) rfl (XS.iinc X5.here hx rfl (hb hby own_dz5_2_35) rfl (l' := #[rv a1, iv 2, rv a3, iv 2, iv 2, iv 1, iv ch1]) rfl (XS.iinc X5.here hx rfl (hb hby own_dz5_2_38) rfl (l' := #[rv a1, iv 2, rv a3, iv 2, iv 2, iv 2, iv ch1]) rfl (XS.goto X5.here hx rfl (pc0 := 41) (pc' := 3) rfl (hb hby own_dz5_2_41) (by decide) (by decide) (XS.iload X5.here hx rfl (hb hby own_dz5_2_3) rfl  k))))) ?_
  refine own_s T5 (mkF m 46 #[rv a1, iv 2, rv a3, iv 2, iv 2, iv 2, iv ch1] [(.int 2)]) (fun _ k => XS.iload X5.here hx rfl (hb hby own_dz5_2_5) rfl  (XS.icmpYes X5.here hx rfl (pc0 := 7) (pc' := 44) rfl (hb hby own_dz5_2_7) rfl (flt (by decide : ¬ ((2 : Int32) < (2 : Int32)))).2.1 (by decide) (by decide) (XS.iload X5.here hx rfl (hb hby own_dz5_2_44) rfl  k))) ?_
  exact own_finI X5 hx hret (hb hby own_dz5_2_46) (own_end (Qv := (own_Qz5_2 Z a1 a3 ka kc ch0 ch1 h0 n0)) X5 (own_some hret) hlk (by decide) (by decide) e5 ⟨rfl, N5, K5, f5⟩)
theorem own_dz3_2_0 : decode jdk_52_method_16_code 0 = .ok (.iload_n 2, 1) := by decide +kernel
theorem own_dz3_2_1 : decode jdk_52_method_16_code 1 = .ok (.newarray .byte, 2) := by decide +kernel
theorem own_dz3_2_3 : decode jdk_52_method_16_code 3 = .ok (.astore_n 3, 1) := by decide +kernel
theorem own_dz3_2_4 : decode jdk_52_method_16_code 4 = .ok (.aload_n 0, 1) := by decide +kernel
theorem own_dz3_2_5 : decode jdk_52_method_16_code 5 = .ok (.iload_n 1, 1) := by decide +kernel
theorem own_dz3_2_6 : decode jdk_52_method_16_code 6 = .ok (.aload_n 3, 1) := by decide +kernel
theorem own_dz3_2_7 : decode jdk_52_method_16_code 7 = .ok (.iconst 0, 1) := by decide +kernel
theorem own_dz3_2_8 : decode jdk_52_method_16_code 8 = .ok (.iload_n 2, 1) := by decide +kernel
theorem own_dz3_2_9 : decode jdk_52_method_16_code 9 = .ok (.invokestatic 115, 3) := by decide +kernel
theorem own_dz3_2_12 : decode jdk_52_method_16_code 12 = .ok (.istore 4, 2) := by decide +kernel
theorem own_dz3_2_14 : decode jdk_52_method_16_code 14 = .ok (.iload 4, 2) := by decide +kernel
theorem own_dz3_2_16 : decode jdk_52_method_16_code 16 = .ok (.iload_n 2, 1) := by decide +kernel
theorem own_dz3_2_17 : decode jdk_52_method_16_code 17 = .ok (.if_icmp .eq 40, 3) := by decide +kernel
theorem own_dz3_2_57 : decode jdk_52_method_16_code 57 = .ok (.aload_n 3, 1) := by decide +kernel
theorem own_dz3_2_58 : decode jdk_52_method_16_code 58 = .ok (.areturn, 1) := by decide +kernel
theorem own_efz3_2 (m : MethodId) (x0 : Addr) (x1 : Int32) (x2 : Int32) : entryFrame m #[(.ref x0), (.int x1), (.int x2)] 6 = mkF m 0 #[rv x0, iv x1, iv x2, u_, u_, u_] [] := by first | (simp [entryFrame, mkF, argsToLocals, Value.category]; done) | rfl
def own_Qz3_2 (Z : State) (a1 : Addr) (ka : ClassId) (ch0 ch1 : Int32) (h0 : Heap) (n0 : Nat) : Option Value → Heap → List Loc → Prop := fun v h L => (∃ (b : Addr) (k : ClassId), v = some (.ref b) ∧ n0 ≤ b ∧ h0.size ≤ b ∧ Arv Z h b k .byte (2 : Int32) [(.int (own_by ch0)), (.int (own_by ch1))] (.int 0)) ∧ Fr n0 L ∧ Keep h0 h []
def own_Rz3_2 : Room := { frames := 1, cells := 1, slots := 2, locals := 18 }
set_option maxRecDepth 65536 in
set_option maxHeartbeats 40000000 in
theorem own_rmz3_2 (l : Launch) (Z : State) (a0 : Array Value) (hw : ∀ d ∈ tables_1, d.before a0 Z = true) (ws : List Jvm.Cond) (a1 : Addr) (ka : ClassId) (ch0 ch1 : Int32) (h0 : Heap) (n0 : Nat) (Z0 : n0 ≤ h0.size) (V1 : Arv Z h0 a1 ka .char (2 : Int32) [(.int ch0), (.int ch1)] (.int 0)) (hc0 : ¬ (255 : Int32) < ch0) (hc1 : ¬ (255 : Int32) < ch1) :
    own_Met l Z own_y1 jdk_52_method_16_code 6 (some (.array .byte)) ws own_Rz3_2 h0 #[(.ref a1), (.int 0), (.int 2)] (own_Qz3_2 Z a1 ka ch0 ch1 h0 n0) own_Rz3_2.cells own_Rz3_2.slots := by
  refine own_start (plainFor_of_name own_pn0) ?_
  intro p e s m below meth c s₁ X0 hx hZ hby hml hret hlk hown hnm e0
  have hown : s.vm.findClass "java/lang/StringUTF16" = some m.cls := hown
  have hml : c.maxLocals = 6 := hml
  have N0 := Fr.nil n0
  refine own_cast (own_efz3_2 m a1 (0 : Int32) (2 : Int32)) ?_
  refine own_s s₁ (mkF m 1 #[rv a1, iv 0, iv 2, u_, u_, u_] [(.int 2)]) (fun _ k => XS.iloadN X0.here hx rfl (hb hby own_dz3_2_0) rfl  k) ?_
  obtain ⟨T1, h1, k1, X1, e1, E1, A1, st1⟩ := newP X0 hx hZ (own_h hw 23 rfl) e0 (g := (mkF m 1 #[rv a1, iv 0, iv 2, u_, u_, u_] [(.int 2)])) rfl (hb hby own_dz3_2_1) rfl (by decide) (cap := 2) (by decide) (by decide) (by decide) (by decide)
  obtain ⟨b1, g1⟩ : ∃ z, z = h0.size := ⟨_, rfl⟩
  have ne_a1_b1 : a1 ≠ b1 := Nat.ne_of_lt (Nat.lt_of_lt_of_le V1.lt (Nat.le_of_eq g1.symm))
  have g_b1 : n0 ≤ b1 := Nat.le_trans Z0 (Nat.le_of_eq g1.symm)
  have sz_b1 : h0.size ≤ b1 := Nat.le_trans (Keep.refl h0 []).1 (Nat.le_of_eq g1.symm)
  rw [← g1] at A1 st1
  have f2 := V1.ext E1
  have K1 : Keep h0 h1 [] := (Keep.refl h0 []).ext E1
  have Z1 := Nat.le_trans Z0 E1.1
  have f1 : Arv Z h1 b1 k1 .byte 2 [(.int 0), (.int 0)] (.int 0) := (Arv.new A1 (by decide)).pad (pad_rep [] (.int 0) 2)
  refine own_s T1 (mkF m 3 #[rv a1, iv 0, iv 2, u_, u_, u_] [(.ref b1)]) st1 ?_
  refine own_s T1 (mkF m 8 #[rv a1, iv 0, iv 2, rv b1, u_, u_] [(.int 0), (.ref b1), (.int 0), (.ref a1)]) (fun _ k => XS.astoreN X1.here hx rfl (hb hby own_dz3_2_3) rfl rfl (l' := #[rv a1, iv 0, iv 2, rv b1, u_, u_]) rfl (XS.aloadN X1.here hx rfl (hb hby own_dz3_2_4) rfl rfl (XS.iloadN X1.here hx rfl (hb hby own_dz3_2_5) rfl  (XS.aloadN X1.here hx rfl (hb hby own_dz3_2_6) rfl rfl (XS.iconst X1.here hx rfl (hb hby own_dz3_2_7) k))))) ?_
  refine own_s T1 (mkF m 9 #[rv a1, iv 0, iv 2, rv b1, u_, u_] [(.int 2), (.int 0), (.ref b1), (.int 0), (.ref a1)]) (fun _ k => XS.iloadN X1.here hx rfl (hb hby own_dz3_2_8) rfl  k) ?_
  obtain ⟨v3, T3, L3, X3, hQ3, st3⟩ := own_callS X1 hx hZ (y := own_y0) (W := 0) hown (own_h hw 24 rfl) (own_h hw 25 rfl) (own_h hw 21 rfl) (own_h hw 26 rfl) (by decide) (own_rmz5_2 l Z a0 hw [] a1 b1 ka k1 ch0 ch1 h1 n0 Z1 f2 f1 ne_a1_b1 g_b1 hc0 hc1) (by decide) (by decide) (g := (mkF m 9 #[rv a1, iv 0, iv 2, rv b1, u_, u_] [(.int 2), (.int 0), (.ref b1), (.int 0), (.ref a1)])) rfl (by rw [hml]; rfl) (argsL := [(.ref a1), (.int 0), (.ref b1), (.int 0), (.int 2)]) (rest := []) rfl (lenOf own_pd0 rfl) rfl (by show 2 * 0 + _ ≤ _; exact Nat.le_of_eq rfl) (hb hby own_dz3_2_9) e1 (by decide) (by decide)
  obtain ⟨rfl, Nq3, Kq3, Vq3⟩ := hQ3
  have N3 := Fr.app N0 Nq3
  have f4 := f2.keep Kq3 (ninS ne_a1_b1 nin0)
  have K3 : Keep h0 T3.heap [] := K1.trans Kq3 (allS (Or.inr sz_b1) all0)
  have Z3 := Nat.le_trans Z1 Kq3.1
  refine own_s T3 (mkF m 12 #[rv a1, iv 0, iv 2, rv b1, u_, u_] [(.int 2)]) st3 ?_
  refine own_s T3 (mkF m 58 #[rv a1, iv 0, iv 2, rv b1, iv 2, u_] [(.ref b1)]) (fun _ k => XS.istore X3.here hx rfl (hb hby own_dz3_2_12) rfl (l' := #[rv a1, iv 0, iv 2, rv b1, iv 2, u_]) rfl (XS.iload X3.here hx rfl (hb hby own_dz3_2_14) rfl  (XS.iloadN X3.here hx rfl (hb hby own_dz3_2_16) rfl  (XS.icmpYes X3.here hx rfl (pc0 := 17) (pc' := 57) rfl (hb hby own_dz3_2_17) rfl (teq (by decide : ((2 : Int32) = (2 : Int32)))).1 (by decide) (by decide) (XS.aloadN X3.here hx rfl (hb hby own_dz3_2_57) rfl rfl k))))) ?_
  exact own_finA X3 hx hret rfl rfl (hb hby own_dz3_2_58) (own_end (Qv := (own_Qz3_2 Z a1 ka ch0 ch1 h0 n0)) X3 (own_some hret) hlk (by decide) (by decide) rfl ⟨⟨b1, _, rfl, g_b1, sz_b1, Vq3⟩, N3, K3⟩)
theorem own_dcdr_2_0 : decode jdk_52_method_15_code 0 = .ok (.iload_n 1, 1) := by decide +kernel
theorem own_dcdr_2_1 : decode jdk_52_method_15_code 1 = .ok (.aload_n 0, 1) := by decide +kernel
theorem own_dcdr_2_2 : decode jdk_52_method_15_code 2 = .ok (.arraylength, 1) := by decide +kernel
theorem own_dcdr_2_3 : decode jdk_52_method_15_code 3 = .ok (.isub, 1) := by decide +kernel
theorem own_dcdr_2_4 : decode jdk_52_method_15_code 4 = .ok (.bipush 31, 2) := by decide +kernel
theorem own_dcdr_2_6 : decode jdk_52_method_15_code 6 = .ok (.iushr, 1) := by decide +kernel
theorem own_dcdr_2_7 : decode jdk_52_method_15_code 7 = .ok (.i2b, 1) := by decide +kernel
theorem own_dcdr_2_8 : decode jdk_52_method_15_code 8 = .ok (.ireturn, 1) := by decide +kernel
theorem own_efcdr_2 (m : MethodId) (x0 : Addr) (x1 : Int32) : entryFrame m #[(.ref x0), (.int x1)] 2 = mkF m 0 #[rv x0, iv x1] [] := by first | (simp [entryFrame, mkF, argsToLocals, Value.category]; done) | rfl
def own_Qcdr_2 (Z : State) (a1 : Addr) (ka : ClassId) (ch0 ch1 : Int32) (h0 : Heap) (n0 : Nat) : Option Value → Heap → List Loc → Prop := fun v h L => v = some (.int 0) ∧ Fr n0 L ∧ h = h0
def own_Rcdr_2 : Room := { frames := 0, cells := 0, slots := 0, locals := 0 }
set_option maxRecDepth 65536 in
set_option maxHeartbeats 40000000 in
theorem own_rmcdr_2 (l : Launch) (Z : State) (a0 : Array Value) (hw : ∀ d ∈ tables_1, d.before a0 Z = true) (ws : List Jvm.Cond) (a1 : Addr) (ka : ClassId) (ch0 ch1 : Int32) (h0 : Heap) (n0 : Nat) (Z0 : n0 ≤ h0.size) (V1 : Arv Z h0 a1 ka .byte (2 : Int32) [(.int (own_by ch0)), (.int (own_by ch1))] (.int 0)) :
    own_Met l Z own_y2 jdk_52_method_15_code 2 (some .byte) ws own_Rcdr_2 h0 #[(.ref a1), (.int 2)] (own_Qcdr_2 Z a1 ka ch0 ch1 h0 n0) own_Rcdr_2.cells own_Rcdr_2.slots := by
  refine own_start (plainFor_of_name own_pn0) ?_
  intro p e s m below meth c s₁ X0 hx hZ hby hml hret hlk hown hnm e0
  have hown : s.vm.findClass "java/lang/StringUTF16" = some m.cls := hown
  have hml : c.maxLocals = 2 := hml
  have N0 := Fr.nil n0
  refine own_cast (own_efcdr_2 m a1 (2 : Int32)) ?_
  refine own_s s₁ (mkF m 2 #[rv a1, iv 2] [(.ref a1), (.int 2)]) (fun _ k => XS.iloadN X0.here hx rfl (hb hby own_dcdr_2_0) rfl  (XS.aloadN X0.here hx rfl (hb hby own_dcdr_2_1) rfl rfl k)) ?_
  obtain ⟨cl1, Ar1, q1, S1, Nn1, H1, G1⟩ := id V1
  refine own_s s₁ (mkF m 8 #[rv a1, iv 2] [(.int ((((0 : Int32).toUInt32 >>> ((31 : Int32) &&& 31).toUInt32).toInt32).toInt8.toInt32))]) (fun _ k => own_len X0 hx hZ e0 Ar1 S1 Nn1 (g := (mkF m 2 #[rv a1, iv 2] [(.ref a1), (.int 2)])) rfl rfl (hb hby own_dcdr_2_2) (XS.isub X0.here hx rfl (hb hby own_dcdr_2_3) rfl (XS.bipush X0.here hx rfl (hb hby own_dcdr_2_4) (XS.iushr X0.here hx rfl (hb hby own_dcdr_2_6) rfl (XS.i2b X0.here hx rfl (hb hby own_dcdr_2_7) rfl k))))) ?_
  exact own_finZ X0 hx (t := .byte) hret (by simp) (z' := (0 : Int32)) (by decide) (hb hby own_dcdr_2_8) (own_end (Qv := (own_Qcdr_2 Z a1 ka ch0 ch1 h0 n0)) X0 (own_some hret) hlk (by decide) (by decide) e0 ⟨rfl, N0, rfl⟩)
theorem own_dsi4_2_0 : decode jdk_42_method_149_code 0 = .ok (.aload_n 0, 1) := by decide +kernel
theorem own_dsi4_2_1 : decode jdk_42_method_149_code 1 = .ok (.invokespecial 1, 3) := by decide +kernel
theorem own_dsi4_2_4 : decode jdk_42_method_149_code 4 = .ok (.iload_n 3, 1) := by decide +kernel
theorem own_dsi4_2_5 : decode jdk_42_method_149_code 5 = .ok (.ifCond .ne 22, 3) := by decide +kernel
theorem own_dsi4_2_27 : decode jdk_42_method_149_code 27 = .ok (.getstatic 38, 3) := by decide +kernel
theorem own_dsi4_2_30 : decode jdk_42_method_149_code 30 = .ok (.ifCond .eq 28, 3) := by decide +kernel
theorem own_dsi4_2_33 : decode jdk_42_method_149_code 33 = .ok (.aload_n 1, 1) := by decide +kernel
theorem own_dsi4_2_34 : decode jdk_42_method_149_code 34 = .ok (.iload_n 2, 1) := by decide +kernel
theorem own_dsi4_2_35 : decode jdk_42_method_149_code 35 = .ok (.iload_n 3, 1) := by decide +kernel
theorem own_dsi4_2_36 : decode jdk_42_method_149_code 36 = .ok (.invokestatic 177, 3) := by decide +kernel
theorem own_dsi4_2_39 : decode jdk_42_method_149_code 39 = .ok (.astore 5, 2) := by decide +kernel
theorem own_dsi4_2_41 : decode jdk_42_method_149_code 41 = .ok (.aload_n 0, 1) := by decide +kernel
theorem own_dsi4_2_42 : decode jdk_42_method_149_code 42 = .ok (.aload 5, 2) := by decide +kernel
theorem own_dsi4_2_44 : decode jdk_42_method_149_code 44 = .ok (.iload_n 3, 1) := by decide +kernel
theorem own_dsi4_2_45 : decode jdk_42_method_149_code 45 = .ok (.invokestatic 47, 3) := by decide +kernel
theorem own_dsi4_2_48 : decode jdk_42_method_149_code 48 = .ok (.putfield 15, 3) := by decide +kernel
theorem own_dsi4_2_51 : decode jdk_42_method_149_code 51 = .ok (.aload_n 0, 1) := by decide +kernel
theorem own_dsi4_2_52 : decode jdk_42_method_149_code 52 = .ok (.aload 5, 2) := by decide +kernel
theorem own_dsi4_2_54 : decode jdk_42_method_149_code 54 = .ok (.putfield 9, 3) := by decide +kernel
theorem own_dsi4_2_57 : decode jdk_42_method_149_code 57 = .ok (.return_, 1) := by decide +kernel
theorem own_efsi4_2 (m : MethodId) (x0 : Addr) (x1 : Addr) (x2 : Int32) (x3 : Int32) : entryFrame m #[(.ref x0), (.ref x1), (.int x2), (.int x3), .null] 6 = mkF m 0 #[rv x0, rv x1, iv x2, iv x3, .val .null, u_] [] := by first | (simp [entryFrame, mkF, argsToLocals, Value.category]; done) | rfl
def own_Qsi4_2 (Z : State) (a1 : Addr) (a2 : Addr) (kb : ClassId) (gC : Int32) (ch0 ch1 : Int32) (h0 : Heap) (n0 : Nat) : Option Value → Heap → List Loc → Prop := fun v h L => v = none ∧ Fr n0 L ∧ Keep h0 h [a1] ∧ Exa Z h a1 "java/lang/String" ∧ Fld Z h a1 "java/lang/String" "coder" "B" (.int 0) ∧ ∃ (b : Addr) (k : ClassId), n0 ≤ b ∧ h0.size ≤ b ∧ Fld Z h a1 "java/lang/String" "value" "[B" (.ref b) ∧ Arv Z h b k .byte (2 : Int32) [(.int (own_by ch0)), (.int (own_by ch1))] (.int 0)
def own_Rsi4_2 : Room := { frames := 2, cells := 1, slots := 2, locals := 35 }
set_option maxRecDepth 65536 in
set_option maxHeartbeats 40000000 in
theorem own_rmsi4_2 (l : Launch) (Z : State) (a0 : Array Value) (hw : ∀ d ∈ tables_1, d.before a0 Z = true) (ws : List Jvm.Cond) (a1 : Addr) (a2 : Addr) (kb : ClassId) (gC : Int32) (ch0 ch1 : Int32) (h0 : Heap) (n0 : Nat) (Z0 : n0 ≤ h0.size) (g_a1 : n0 ≤ a1) (E1 : Exa Z h0 a1 "java/lang/String") (C1 : Fld Z h0 a1 "java/lang/String" "coder" "B" (.int 0)) (W1 : Fld Z h0 a1 "java/lang/String" "value" "[B" .null) (V2 : Arv Z h0 a2 kb .char (2 : Int32) [(.int ch0), (.int ch1)] (.int 0)) (hne : a2 ≠ a1) (SC : Sta Z h0 "java/lang/String" "COMPACT_STRINGS" "Z" (.int gC)) (hG : ¬ gC = (0 : Int32)) (hc0 : ¬ (255 : Int32) < ch0) (hc1 : ¬ (255 : Int32) < ch1) :
    own_Met l Z own_y3 jdk_42_method_149_code 6 none ws own_Rsi4_2 h0 #[(.ref a1), (.ref a2), (.int 0), (.int 2), .null] (own_Qsi4_2 Z a1 a2 kb gC ch0 ch1 h0 n0) own_Rsi4_2.cells own_Rsi4_2.slots := by
  refine own_start (plainFor_of_name own_pn1) ?_
  intro p e s m below meth c s₁ X0 hx hZ hby hml hret hlk hown hnm e0
  have hown : s.vm.findClass "java/lang/String" = some m.cls := hown
  have hml : c.maxLocals = 6 := hml
  have N0 := Fr.nil n0
  refine own_cast (own_efsi4_2 m a1 a2 (0 : Int32) (2 : Int32)) ?_
  refine own_s s₁ (mkF m 1 #[rv a1, rv a2, iv 0, iv 2, .val .null, u_] [(.ref a1)]) (fun _ k => XS.aloadN X0.here hx rfl (hb hby own_dsi4_2_0) rfl rfl k) ?_
  obtain ⟨T1, X1, e1, st1⟩ := initO X0 hx hZ hown (own_h hw 15 rfl) (own_h hw 16 rfl) (own_h hw 17 rfl) e0 (g := (mkF m 1 #[rv a1, rv a2, iv 0, iv 2, .val .null, u_] [(.ref a1)])) rfl (by rw [hml]; rfl) rfl (hb hby own_dsi4_2_1) (by decide) (W := 0) (by show 2 * 0 + _ ≤ _; exact Nat.le_of_eq rfl) (by decide)
  refine own_s T1 (mkF m 4 #[rv a1, rv a2, iv 0, iv 2, .val .null, u_] []) st1 ?_
  refine own_s T1 (mkF m 27 #[rv a1, rv a2, iv 0, iv 2, .val .null, u_] []) (fun _ k => XS.iloadN X1.here hx rfl (hb hby own_dsi4_2_4) rfl  (XS.ifYes X1.here hx rfl (pc0 := 5) (pc' := 27) rfl (hb hby own_dsi4_2_5) rfl ((if0 _ _).trans (feq (by decide : ¬ ((2 : Int32) = (0 : Int32)))).2) (by decide) (by decide) k)) ?_
  obtain ⟨T2, X2, e2, st2⟩ := getS2 X1 hx hZ hown (host := "") (Or.inl (own_h hw 18 rfl)) Via.refl e1 SC (g := (mkF m 27 #[rv a1, rv a2, iv 0, iv 2, .val .null, u_] [])) rfl (hb hby own_dsi4_2_27)
  refine own_s T2 (mkF m 30 #[rv a1, rv a2, iv 0, iv 2, .val .null, u_] [(.int gC)]) st2 ?_
  refine own_s T2 (mkF m 36 #[rv a1, rv a2, iv 0, iv 2, .val .null, u_] [(.int 2), (.int 0), (.ref a2)]) (fun _ k => XS.ifNo X2.here hx rfl (hb hby own_dsi4_2_30) rfl ((if0 _ _).trans (feq hG).1) (XS.aloadN X2.here hx rfl (hb hby own_dsi4_2_33) rfl rfl (XS.iloadN X2.here hx rfl (hb hby own_dsi4_2_34) rfl  (XS.iloadN X2.here hx rfl (hb hby own_dsi4_2_35) rfl  k)))) ?_
  obtain ⟨v3, T3, L3, X3, hQ3, st3⟩ := own_callS X2 hx hZ (y := own_y1) (W := 0) hown (own_h hw 19 rfl) (own_h hw 20 rfl) (own_h hw 21 rfl) (own_h hw 22 rfl) (by decide) (own_rmz3_2 l Z a0 hw [] a2 kb ch0 ch1 h0 n0 Z0 V2 hc0 hc1) (by decide) (by decide) (g := (mkF m 36 #[rv a1, rv a2, iv 0, iv 2, .val .null, u_] [(.int 2), (.int 0), (.ref a2)])) rfl (by rw [hml]; rfl) (argsL := [(.ref a2), (.int 0), (.int 2)]) (rest := []) rfl (lenOf own_pd1 rfl) rfl (by show 2 * 0 + _ ≤ _; exact Nat.le_of_eq rfl) (hb hby own_dsi4_2_36) e2 (by decide) (by decide)
  obtain ⟨⟨b3, k3, rfl, g_b3, sq3, Vq3⟩, Nq3, Kq3⟩ := hQ3
  have N3 := Fr.app N0 Nq3
  have ne_a1_b3 : a1 ≠ b3 := Nat.ne_of_lt (Nat.lt_of_lt_of_le E1.lt sq3)
  have ne_a2_b3 : a2 ≠ b3 := Nat.ne_of_lt (Nat.lt_of_lt_of_le V2.lt sq3)
  have sz_b3 : h0.size ≤ b3 := Nat.le_trans (Keep.refl h0 [a1]).1 sq3
  have f4 := E1.keep Kq3
  have f5 := C1.keep Kq3 nin0
  have f6 := W1.keep Kq3 nin0
  have f7 := V2.keep Kq3 nin0
  have f8 := own_staKeep SC Kq3
  have K3 : Keep h0 T3.heap [a1] := (Keep.refl h0 [a1]).trans Kq3 all0
  have Z3 := Nat.le_trans Z0 Kq3.1
  refine own_s T3 (mkF m 39 #[rv a1, rv a2, iv 0, iv 2, .val .null, u_] [(.ref b3)]) st3 ?_
  refine own_s T3 (mkF m 45 #[rv a1, rv a2, iv 0, iv 2, .val .null, rv b3] [(.int 2), (.ref b3), (.ref a1)]) (fun _ k => XS.astore X3.here hx rfl (hb hby own_dsi4_2_39) rfl rfl (l' := #[rv a1, rv a2, iv 0, iv 2, .val .null, rv b3]) rfl (XS.aloadN X3.here hx rfl (hb hby own_dsi4_2_41) rfl rfl (XS.aload X3.here hx rfl (hb hby own_dsi4_2_42) rfl rfl (XS.iloadN X3.here hx rfl (hb hby own_dsi4_2_44) rfl  k)))) ?_
  obtain ⟨v9, T9, L9, X9, hQ9, st9⟩ := own_callS X3 hx hZ (y := own_y2) (W := 1) hown (own_h hw 27 rfl) (own_h hw 28 rfl) (own_h hw 21 rfl) (own_h hw 29 rfl) (by decide) (own_rmcdr_2 l Z a0 hw [] b3 k3 ch0 ch1 T3.heap n0 Z3 Vq3) (by decide) (by decide) (g := (mkF m 45 #[rv a1, rv a2, iv 0, iv 2, .val .null, rv b3] [(.int 2), (.ref b3), (.ref a1)])) rfl (by rw [hml]; rfl) (argsL := [(.ref b3), (.int 2)]) (rest := [(.ref a1)]) rfl (lenOf own_pd2 rfl) rfl (by show 2 * 0 + _ ≤ _; exact Nat.le_of_eq rfl) (hb hby own_dsi4_2_45) rfl (by decide) (by decide)
  obtain ⟨rfl, Nq9, e9⟩ := hQ9
  have N9 := Fr.app N3 Nq9
  refine own_s T9 (mkF m 48 #[rv a1, rv a2, iv 0, iv 2, .val .null, rv b3] [(.int 0), (.ref a1)]) st9 ?_
  obtain ⟨T10, h10, X10, e10, W10, st10⟩ := putFN X9 hx hZ hown (own_h hw 30 rfl) Via.refl e9 f5 f4 (Or.inr ⟨(own_h hw 31 rfl), rfl, hnm⟩) (own_h hw 5 rfl) (ty := .byte) (v' := (.int 0)) (by decide) rfl rfl (g := (mkF m 48 #[rv a1, rv a2, iv 0, iv 2, .val .null, rv b3] [(.int 0), (.ref a1)])) rfl rfl (hb hby own_dsi4_2_48)
  have Fw10 := Fld.same W10 f5
  have f11 := Exa.wr W10 f4
  have f12 := Fld.other W10 f6 (Or.inr (slot_ne (Or.inr (own_h hw 33 rfl)) (Or.inr (own_h hw 31 rfl)) (by decide) (t := (.array .byte)) (t' := .byte) (by decide) (by decide)))
  have f13 := f7.other W10 hne
  have f14 := Sta.wr W10 f8
  have f15 := Vq3.other W10 (Ne.symm ne_a1_b3)
  have K10 : Keep h0 h10 [a1] := K3.wr W10 (Or.inl (List.mem_of_getElem? (i := 0) rfl))
  have Z10 := Nat.le_trans Z3 (Nat.le_of_eq W10.size.symm)
  have N10 := Fr.snoc X10 N9 g_a1
  refine own_s T10 (mkF m 51 #[rv a1, rv a2, iv 0, iv 2, .val .null, rv b3] []) st10 ?_
  refine own_s T10 (mkF m 54 #[rv a1, rv a2, iv 0, iv 2, .val .null, rv b3] [(.ref b3), (.ref a1)]) (fun _ k => XS.aloadN X10.here hx rfl (hb hby own_dsi4_2_51) rfl rfl (XS.aload X10.here hx rfl (hb hby own_dsi4_2_52) rfl rfl k)) ?_
  obtain ⟨T16, h16, X16, e16, W16, st16⟩ := putF X10 hx hZ hown (host := "") (Or.inl (own_h hw 32 rfl)) Via.refl e10 f12 f11 (Or.inr ⟨(own_h hw 33 rfl), rfl, hnm⟩) (own_h hw 5 rfl) (ty := (.array .byte)) (by decide) rfl rfl (g := (mkF m 54 #[rv a1, rv a2, iv 0, iv 2, .val .null, rv b3] [(.ref b3), (.ref a1)])) rfl rfl (hb hby own_dsi4_2_54)
  have Fw16 := Fld.same W16 f12
  have f17 := Exa.wr W16 f11
  have f18 := Fld.other W16 Fw10 (Or.inr (slot_ne (Or.inr (own_h hw 31 rfl)) (Or.inr (own_h hw 33 rfl)) (by decide) (t := .byte) (t' := (.array .byte)) (by decide) (by decide)))
  have f19 := f13.other W16 hne
  have f20 := Sta.wr W16 f14
  have f21 := f15.other W16 (Ne.symm ne_a1_b3)
  have K16 : Keep h0 h16 [a1] := K10.wr W16 (Or.inl (List.mem_of_getElem? (i := 0) rfl))
  have Z16 := Nat.le_trans Z10 (Nat.le_of_eq W16.size.symm)
  have N16 := Fr.snoc X16 N10 g_a1
  refine own_s T16 (mkF m 57 #[rv a1, rv a2, iv 0, iv 2, .val .null, rv b3] []) st16 ?_
  exact own_finV X16 hx hret (hb hby own_dsi4_2_57) (own_end (Qv := (own_Qsi4_2 Z a1 a2 kb gC ch0 ch1 h0 n0)) X16 (fun _ => rfl) hlk (by decide) (by decide) e16 ⟨rfl, N16, K16, f17, f18, b3, _, g_b3, sz_b3, Fw16, f21⟩)
theorem own_dsi1_2_0 : decode jdk_42_method_3_code 0 = .ok (.aload_n 0, 1) := by decide +kernel
theorem own_dsi1_2_1 : decode jdk_42_method_3_code 1 = .ok (.aload_n 1, 1) := by decide +kernel
theorem own_dsi1_2_2 : decode jdk_42_method_3_code 2 = .ok (.iconst 0, 1) := by decide +kernel
theorem own_dsi1_2_3 : decode jdk_42_method_3_code 3 = .ok (.aload_n 1, 1) := by decide +kernel
theorem own_dsi1_2_4 : decode jdk_42_method_3_code 4 = .ok (.arraylength, 1) := by decide +kernel
theorem own_dsi1_2_5 : decode jdk_42_method_3_code 5 = .ok (.aconst_null, 1) := by decide +kernel
theorem own_dsi1_2_6 : decode jdk_42_method_3_code 6 = .ok (.invokespecial 27, 3) := by decide +kernel
theorem own_dsi1_2_9 : decode jdk_42_method_3_code 9 = .ok (.return_, 1) := by decide +kernel
theorem own_efsi1_2 (m : MethodId) (x0 : Addr) (x1 : Addr) : entryFrame m #[(.ref x0), (.ref x1)] 2 = mkF m 0 #[rv x0, rv x1] [] := by first | (simp [entryFrame, mkF, argsToLocals, Value.category]; done) | rfl
def own_Qsi1_2 (Z : State) (a1 : Addr) (a2 : Addr) (kb : ClassId) (gC : Int32) (ch0 ch1 : Int32) (h0 : Heap) (n0 : Nat) : Option Value → Heap → List Loc → Prop := fun v h L => v = none ∧ Fr n0 L ∧ Keep h0 h [a1] ∧ Exa Z h a1 "java/lang/String" ∧ Fld Z h a1 "java/lang/String" "coder" "B" (.int 0) ∧ ∃ (b : Addr) (k : ClassId), n0 ≤ b ∧ h0.size ≤ b ∧ Fld Z h a1 "java/lang/String" "value" "[B" (.ref b) ∧ Arv Z h b k .byte (2 : Int32) [(.int (own_by ch0)), (.int (own_by ch1))] (.int 0)
def own_Rsi1_2 : Room := { frames := 3, cells := 1, slots := 2, locals := 52 }
set_option maxRecDepth 65536 in
set_option maxHeartbeats 40000000 in
theorem own_rmsi1_2 (l : Launch) (Z : State) (a0 : Array Value) (hw : ∀ d ∈ tables_1, d.before a0 Z = true) (ws : List Jvm.Cond) (a1 : Addr) (a2 : Addr) (kb : ClassId) (gC : Int32) (ch0 ch1 : Int32) (h0 : Heap) (n0 : Nat) (Z0 : n0 ≤ h0.size) (g_a1 : n0 ≤ a1) (E1 : Exa Z h0 a1 "java/lang/String") (C1 : Fld Z h0 a1 "java/lang/String" "coder" "B" (.int 0)) (W1 : Fld Z h0 a1 "java/lang/String" "value" "[B" .null) (V2 : Arv Z h0 a2 kb .char (2 : Int32) [(.int ch0), (.int ch1)] (.int 0)) (hne : a2 ≠ a1) (SC : Sta Z h0 "java/lang/String" "COMPACT_STRINGS" "Z" (.int gC)) (hG : ¬ gC = (0 : Int32)) (hc0 : ¬ (255 : Int32) < ch0) (hc1 : ¬ (255 : Int32) < ch1) :
    own_Met l Z own_y4 jdk_42_method_3_code 2 none ws own_Rsi1_2 h0 #[(.ref a1), (.ref a2)] (own_Qsi1_2 Z a1 a2 kb gC ch0 ch1 h0 n0) own_Rsi1_2.cells own_Rsi1_2.slots := by
  refine own_start (plainFor_of_name own_pn1) ?_
  intro p e s m below meth c s₁ X0 hx hZ hby hml hret hlk hown hnm e0
  have hown : s.vm.findClass "java/lang/String" = some m.cls := hown
  have hml : c.maxLocals = 2 := hml
  have N0 := Fr.nil n0
  refine own_cast (own_efsi1_2 m a1 a2) ?_
  refine own_s s₁ (mkF m 4 #[rv a1, rv a2] [(.ref a2), (.int 0), (.ref a2), (.ref a1)]) (fun _ k => XS.aloadN X0.here hx rfl (hb hby own_dsi1_2_0) rfl rfl (XS.aloadN X0.here hx rfl (hb hby own_dsi1_2_1) rfl rfl (XS.iconst X0.here hx rfl (hb hby own_dsi1_2_2) (XS.aloadN X0.here hx rfl (hb hby own_dsi1_2_3) rfl rfl k)))) ?_
  obtain ⟨cl1, Ar1, q1, S1, Nn1, H1, G1⟩ := id V2
  refine own_s s₁ (mkF m 6 #[rv a1, rv a2] [.null, (.int 2), (.int 0), (.ref a2), (.ref a1)]) (fun _ k => own_len X0 hx hZ e0 Ar1 S1 Nn1 (g := (mkF m 4 #[rv a1, rv a2] [(.ref a2), (.int 0), (.ref a2), (.ref a1)])) rfl rfl (hb hby own_dsi1_2_4) (XS.aconstNull X0.here hx rfl (hb hby own_dsi1_2_5) k)) ?_
  obtain ⟨v2, T2, L2, X2, hQ2, st2⟩ := own_callI X0 hx hZ (y := own_y3) (W := 0) (a := a1) rfl hown (own_h hw 11 rfl) (own_h hw 12 rfl) (own_h hw 6 rfl) (own_h hw 14 rfl) (by decide) (own_rmsi4_2 l Z a0 hw [] a1 a2 kb gC ch0 ch1 h0 n0 Z0 g_a1 E1 C1 W1 V2 hne SC hG hc0 hc1) (by decide) (by decide) (g := (mkF m 6 #[rv a1, rv a2] [.null, (.int 2), (.int 0), (.ref a2), (.ref a1)])) rfl (by rw [hml]; rfl) (argsL := [(.ref a2), (.int 0), (.int 2), .null]) (rest := []) rfl (lenOf own_pd3 rfl) rfl (by show 2 * 0 + _ ≤ _; exact Nat.le_of_eq rfl) (hb hby own_dsi1_2_6) e0 (by decide) (by decide)
  obtain ⟨rfl, Nq2, Kq2, Eq2, Cq2, b2, k2, g_b2, sq2, Wq2, Vq2⟩ := hQ2
  have N2 := Fr.app N0 Nq2
  have ne_a1_b2 : a1 ≠ b2 := Nat.ne_of_lt (Nat.lt_of_lt_of_le E1.lt sq2)
  have ne_a2_b2 : a2 ≠ b2 := Nat.ne_of_lt (Nat.lt_of_lt_of_le V2.lt sq2)
  have sz_b2 : h0.size ≤ b2 := Nat.le_trans (Keep.refl h0 [a1]).1 sq2
  have f3 := V2.keep Kq2 (ninS hne nin0)
  have f4 := own_staKeepW SC Kq2 (allS E1.nostat all0)
  have K2 : Keep h0 T2.heap [a1] := (Keep.refl h0 [a1]).trans Kq2 (allS (Or.inl (List.mem_of_getElem? (i := 0) rfl)) all0)
  have Z2 := Nat.le_trans Z0 Kq2.1
  refine own_s T2 (mkF m 9 #[rv a1, rv a2] []) st2 ?_
  exact own_finV X2 hx hret (hb hby own_dsi1_2_9) (own_end (Qv := (own_Qsi1_2 Z a1 a2 kb gC ch0 ch1 h0 n0)) X2 (fun _ => rfl) hlk (by decide) (by decide) rfl ⟨rfl, N2, K2, Eq2, Cq2, b2, _, g_b2, sz_b2, Wq2, Vq2⟩)
theorem own_dz5_3_0 : decode jdk_52_method_21_code 0 = .ok (.iconst 0, 1) := by decide +kernel
theorem own_dz5_3_1 : decode jdk_52_method_21_code 1 = .ok (.istore 5, 2) := by decide +kernel
theorem own_dz5_3_3 : decode jdk_52_method_21_code 3 = .ok (.iload 5, 2) := by decide +kernel
theorem own_dz5_3_5 : decode jdk_52_method_21_code 5 = .ok (.iload 4, 2) := by decide +kernel
theorem own_dz5_3_7 : decode jdk_52_method_21_code 7 = .ok (.if_icmp .ge 37, 3) := by decide +kernel
theorem own_dz5_3_10 : decode jdk_52_method_21_code 10 = .ok (.aload_n 0, 1) := by decide +kernel
theorem own_dz5_3_11 : decode jdk_52_method_21_code 11 = .ok (.iload_n 1, 1) := by decide +kernel
theorem own_dz5_3_12 : decode jdk_52_method_21_code 12 = .ok (.caload, 1) := by decide +kernel
theorem own_dz5_3_13 : decode jdk_52_method_21_code 13 = .ok (.istore 6, 2) := by decide +kernel
theorem own_dz5_3_15 : decode jdk_52_method_21_code 15 = .ok (.iload 6, 2) := by decide +kernel
theorem own_dz5_3_17 : decode jdk_52_method_21_code 17 = .ok (.sipush 255, 3) := by decide +kernel
theorem own_dz5_3_20 : decode jdk_52_method_21_code 20 = .ok (.if_icmp .le 6, 3) := by decide +kernel
theorem own_dz5_3_26 : decode jdk_52_method_21_code 26 = .ok (.aload_n 2, 1) := by decide +kernel
theorem own_dz5_3_27 : decode jdk_52_method_21_code 27 = .ok (.iload_n 3, 1) := by decide +kernel
theorem own_dz5_3_28 : decode jdk_52_method_21_code 28 = .ok (.iload 6, 2) := by decide +kernel
theorem own_dz5_3_30 : decode jdk_52_method_21_code 30 = .ok (.i2b, 1) := by decide +kernel
theorem own_dz5_3_31 : decode jdk_52_method_21_code 31 = .ok (.bastore, 1) := by decide +kernel
theorem own_dz5_3_32 : decode jdk_52_method_21_code 32 = .ok (.iinc 1 1, 3) := by decide +kernel
theorem own_dz5_3_35 : decode jdk_52_method_21_code 35 = .ok (.iinc 3 1, 3) := by decide +kernel
theorem own_dz5_3_38 : decode jdk_52_method_21_code 38 = .ok (.iinc 5 1, 3) := by decide +kernel
theorem own_dz5_3_41 : decode jdk_52_method_21_code 41 = .ok (.goto (-38), 3) := by decide +kernel
theorem own_dz5_3_44 : decode jdk_52_method_21_code 44 = .ok (.iload 4, 2) := by decide +kernel
theorem own_dz5_3_46 : decode jdk_52_method_21_code 46 = .ok (.ireturn, 1) := by decide +kernel
theorem own_efz5_3 (m : MethodId) (x0 : Addr) (x1 : Int32) (x2 : Addr) (x3 : Int32) (x4 : Int32) : entryFrame m #[(.ref x0), (.int x1), (.ref x2), (.int x3), (.int x4)] 7 = mkF m 0 #[rv x0, iv x1, rv x2, iv x3, iv x4, u_, u_] [] := by first | (simp [entryFrame, mkF, argsToLocals, Value.category]; done) | rfl
def own_Qz5_3 (Z : State) (a1 : Addr) (a3 : Addr) (ka : ClassId) (kc : ClassId) (ch0 ch1 ch2 : Int32) (h0 : Heap) (n0 : Nat) : Option Value → Heap → List Loc → Prop := fun v h L => v = some (.int 3) ∧ Fr n0 L ∧ Keep h0 h [a3] ∧ Arv Z h a3 kc .byte (3 : Int32) [(.int (own_by ch0)), (.int (own_by ch1)), (.int (own_by ch2))] (.int 0)
def own_Rz5_3 : Room := { frames := 0, cells := 0, slots := 0, locals := 0 }
set_option maxRecDepth 65536 in
set_option maxHeartbeats 40000000 in
theorem own_rmz5_3 (l : Launch) (Z : State) (a0 : Array Value) (hw : ∀ d ∈ tables_1, d.before a0 Z = true) (ws : List Jvm.Cond) (a1 : Addr) (a3 : Addr) (ka : ClassId) (kc : ClassId) (ch0 ch1 ch2 : Int32) (h0 : Heap) (n0 : Nat) (Z0 : n0 ≤ h0.size) (V1 : Arv Z h0 a1 ka .char (3 : Int32) [(.int ch0), (.int ch1), (.int ch2)] (.int 0)) (V3 : Arv Z h0 a3 kc .byte (3 : Int32) [(.int 0), (.int 0), (.int 0)] (.int 0)) (hne : a1 ≠ a3) (g_a3 : n0 ≤ a3) (hc0 : ¬ (255 : Int32) < ch0) (hc1 : ¬ (255 : Int32) < ch1) (hc2 : ¬ (255 : Int32) < ch2) :
    own_Met l Z own_y0 jdk_52_method_21_code 7 (some .int) ws own_Rz5_3 h0 #[(.ref a1), (.int 0), (.ref a3), (.int 0), (.int 3)] (own_Qz5_3 Z a1 a3 ka kc ch0 ch1 ch2 h0 n0) own_Rz5_3.cells own_Rz5_3.slots := by
  refine own_start (plainFor_of_name own_pn0) ?_
  intro p e s m below meth c s₁ X0 hx hZ hby hml hret hlk hown hnm e0
  have hown : s.vm.findClass "java/lang/StringUTF16" = some m.cls := hown
  have hml : c.maxLocals = 7 := hml
  have N0 := Fr.nil n0
  refine own_cast (own_efz5_3 m a1 (0 : Int32) a3 (0 : Int32) (3 : Int32)) ?_
  refine own_s s₁ (mkF m 10 #[rv a1, iv 0, rv a3, iv 0, iv 3, iv 0, u_] []) (fun _ k => XS.iconst X0.here hx rfl (hb hby own_dz5_3_0) (XS.istore X0.here hx rfl (hb hby own_dz5_3_1) rfl (l' := #[rv a1, iv 0, rv a3, iv 0, iv 3, iv 0, u_]) rfl (XS.iload X0.here hx rfl (hb hby own_dz5_3_3) rfl  (XS.iload X0.here hx rfl (hb hby own_dz5_3_5) rfl  (XS.icmpNo X0.here hx rfl (hb hby own_dz5_3_7) rfl (tlt (by decide : ((0 : Int32) < (3 : Int32)))).2.1 k))))) ?_
  refine own_s s₁ (mkF m 12 #[rv a1, iv 0, rv a3, iv 0, iv 3, iv 0, u_] [(.int 0), (.ref a1)]) (fun _ k => XS.aloadN X0.here hx rfl (hb hby own_dz5_3_10) rfl rfl (XS.iloadN X0.here hx rfl (hb hby own_dz5_3_11) rfl  k)) ?_
  obtain ⟨cl1, Ar1, q1, S1, Nn1, H1, G1⟩ := id V1
  have hin1 : ¬ ((0 : Int32) < 0 ∨ cl1.slots.size ≤ ((0 : Int32)).toNatClampNeg) := (inb_of S1 ⟨by decide, by decide⟩)
  refine own_s s₁ (mkF m 26 #[rv a1, iv 0, rv a3, iv 0, iv 3, iv 0, iv ch0] []) (fun _ k => X0.caload hx (j := (0 : Int32)) (v := (.int ch0)) (own_at e0 Ar1.1) (State.isArrayOf_alike hZ.alike Ar1.2.1) Ar1.2.2 hin1 (Has.at H1 hin1 rfl) (g := (mkF m 12 #[rv a1, iv 0, rv a3, iv 0, iv 3, iv 0, u_] [(.int 0), (.ref a1)])) rfl rfl (hb hby own_dz5_3_12) _ (XS.istore X0.here hx rfl (hb hby own_dz5_3_13) rfl (l' := #[rv a1, iv 0, rv a3, iv 0, iv 3, iv 0, iv ch0]) rfl (XS.iload X0.here hx rfl (hb hby own_dz5_3_15) rfl  (XS.sipush X0.here hx rfl (hb hby own_dz5_3_17) (XS.icmpYes X0.here hx rfl (pc0 := 20) (pc' := 26) rfl (hb hby own_dz5_3_20) rfl (flt hc0).2.2.2 (by decide) (by decide) k))))) ?_
  refine own_s s₁ (mkF m 31 #[rv a1, iv 0, rv a3, iv 0, iv 3, iv 0, iv ch0] [(.int (ch0.toInt8.toInt32)), (.int 0), (.ref a3)]) (fun _ k => XS.aloadN X0.here hx rfl (hb hby own_dz5_3_26) rfl rfl (XS.iloadN X0.here hx rfl (hb hby own_dz5_3_27) rfl  (XS.iload X0.here hx rfl (hb hby own_dz5_3_28) rfl  (XS.i2b X0.here hx rfl (hb hby own_dz5_3_30) rfl k)))) ?_
  obtain ⟨cl2, Ar2, q2, S2, Nn2, H2, G2⟩ := id V3
  have hin2 : ¬ ((0 : Int32) < 0 ∨ cl2.slots.size ≤ ((0 : Int32)).toNatClampNeg) := (inb_of S2 ⟨by decide, by decide⟩)
  obtain ⟨T2, h2, X2, e2, W2, st2⟩ := stB X0 hx hZ e0 Ar2 (j := (0 : Int32)) hin2 (g := (mkF m 31 #[rv a1, iv 0, rv a3, iv 0, iv 3, iv 0, iv ch0] [(.int (ch0.toInt8.toInt32)), (.int 0), (.ref a3)])) rfl rfl (hb hby own_dz5_3_31)
  have f2 : Arv Z h2 a3 kc .byte (3 : Int32) [(.int (own_by ch0)), (.int 0), (.int 0)] (.int 0) := Arv.set Ar2 q2 S2 Nn2 H2 G2 (fits_nar_byte _) W2 0 rfl (Nat.le_of_ble_eq_true rfl)
  have f3 := V1.other W2 hne
  have K2 : Keep h0 h2 [a3] := (Keep.refl h0 [a3]).wr W2 (Or.inl (List.mem_of_getElem? (i := 0) rfl))
  have Z2 := Nat.le_trans Z0 (Nat.le_of_eq W2.size.symm)
  have N2 := Fr.snoc X2 N0 g_a3
  refine own_s T2 (mkF m 32 #[rv a1, iv 0, rv a3, iv 0, iv 3, iv 0, iv ch0] []) st2 ?_
  refine own_s T2 (mkF m 5 #[rv a1, iv 1, rv a3, iv 1, iv 3, iv 1, iv ch0] [(.int 1)]) (fun _ k => XS.iinc X2.here hx rfl (hb hby own_dz5_3_32) rfl (l' := #[rv a1, iv 1, rv a3, iv 0, iv 3, iv 0, iv ch0]) rfl (XS.iinc X2.here hx rfl (hb hby own_dz5_3_35) rfl (l' := #[rv a1, iv 1, rv a3, iv 1, iv 3, iv 0, iv ch0]) rfl (XS.iinc X2.here hx rfl (hb hby own_dz5_3_38) rfl (l' := #[rv a1, iv 1, rv a3, iv 1, iv 3, iv 1, iv ch0]) rfl (XS.goto X2.here hx rfl (pc0 := 41) (pc' := 3) rfl (hb hby own_dz5_3_41) (by decide) (by decide) (XS.iload X2.here hx rfl (hb hby own_dz5_3_3) rfl  k))))) ?_
  refine own_s T2 (mkF m 12 #[rv a1, iv 1, rv a3, iv 1, iv 3, iv 1, iv ch0] [(.int 1), (.ref a1)]) (fun _ k => XS.iload X2.here hx rfl (hb hby own_dz5_3_5) rfl  (XS.icmpNo X2.here hx rfl (hb hby own_dz5_3_7) rfl (tlt (by decide : ((1 : Int32) < (3 : Int32)))).2.1 (XS.aloadN X2.here hx rfl (hb hby own_dz5_3_10) rfl rfl (XS.iloadN X2.here hx rfl (hb hby own_dz5_3_11) rfl  k)))) ?_
  obtain ⟨cl4, Ar4, q4, S4, Nn4, H4, G4⟩ := id f3
  have hin4 : ¬ ((1 : Int32) < 0 ∨ cl4.slots.size ≤ ((1 : Int32)).toNatClampNeg) := (inb_of S4 ⟨by decide, by decide⟩)
  refine own_s T2 (mkF m 26 #[rv a1, iv 1, rv a3, iv 1, iv 3, iv 1, iv ch1] []) (fun _ k => X2.caload hx (j := (1 : Int32)) (v := (.int ch1)) (own_at e2 Ar4.1) (State.isArrayOf_alike hZ.alike Ar4.2.1) Ar4.2.2 hin4 (Has.at H4 hin4 rfl) (g := (mkF m 12 #[rv a1, iv 1, rv a3, iv 1, iv 3, iv 1, iv ch0] [(.int 1), (.ref a1)])) rfl rfl (hb hby own_dz5_3_12) _ (XS.istore X2.here hx rfl (hb hby own_dz5_3_13) rfl (l' := #[rv a1, iv 1, rv a3, iv 1, iv 3, iv 1, iv ch1]) rfl (XS.iload X2.here hx rfl (hb hby own_dz5_3_15) rfl  (XS.sipush X2.here hx rfl (hb hby own_dz5_3_17) (XS.icmpYes X2.here hx rfl (pc0 := 20) (pc' := 26) rfl (hb hby own_dz5_3_20) rfl (flt hc1).2.2.2 (by decide) (by decide) k))))) ?_
  refine own_s T2 (mkF m 31 #[rv a1, iv 1, rv a3, iv 1, iv 3, iv 1, iv ch1] [(.int (ch1.toInt8.toInt32)), (.int 1), (.ref a3)]) (fun _ k => XS.aloadN X2.here hx rfl (hb hby own_dz5_3_26) rfl rfl (XS.iloadN X2.here hx rfl (hb hby own_dz5_3_27) rfl  (XS.iload X2.here hx rfl (hb hby own_dz5_3_28) rfl  (XS.i2b X2.here hx rfl (hb hby own_dz5_3_30) rfl k)))) ?_
  obtain ⟨cl5, Ar5, q5, S5, Nn5, H5, G5⟩ := id f2
  have hin5 : ¬ ((1 : Int32) < 0 ∨ cl5.slots.size ≤ ((1 : Int32)).toNatClampNeg) := (inb_of S5 ⟨by decide, by decide⟩)
  obtain ⟨T5, h5, X5, e5, W5, st5⟩ := stB X2 hx hZ e2 Ar5 (j := (1 : Int32)) hin5 (g := (mkF m 31 #[rv a1, iv 1, rv a3, iv 1, iv 3, iv 1, iv ch1] [(.int (ch1.toInt8.toInt32)), (.int 1), (.ref a3)])) rfl rfl (hb hby own_dz5_3_31)
  have f5 : Arv Z h5 a3 kc .byte (3 : Int32) [(.int (own_by ch0)), (.int (own_by ch1)), (.int 0)] (.int 0) := Arv.set Ar5 q5 S5 Nn5 H5 G5 (fits_nar_byte _) W5 1 rfl (Nat.le_of_ble_eq_true rfl)
  have f6 := f3.other W5 hne
  have K5 : Keep h0 h5 [a3] := K2.wr W5 (Or.inl (List.mem_of_getElem? (i := 0) rfl))
  have Z5 := Nat.le_trans Z2 (Nat.le_of_eq W5.size.symm)
  have N5 := Fr.snoc X5 N2 g_a3
  refine own_s T5 (mkF m 32 #[rv a1, iv 1, rv a3, iv 1, iv 3, iv 1, iv ch1] []) st5 ?_
  refine own_s T5 (mkF m 5 #[rv a1, iv 2, rv a3, iv 2, iv 3, iv 2, iv ch1] [(.int 2)]) (fun _ k => XS.iinc X5.here hx rfl (hb hby own_dz5_3_32) rfl (l' := #[rv a1, iv 2, rv a3, iv 1, iv 3, iv 1, iv ch1]) rfl (XS.iinc X5.here hx rfl (hb hby own_dz5_3_35) rfl (l' := #[rv a1, iv 2, rv a3, iv 2, iv 3, iv 1, iv ch1]) rfl (XS.iinc X5.here hx rfl (hb hby own_dz5_3_38) rfl (l' := #[rv a1, iv 2, rv a3, iv 2, iv 3, iv 2, iv ch1]) rfl (XS.goto X5.here hx rfl (pc0 := 41) (pc' := 3) rfl (hb hby own_dz5_3_41) (by decide) (by decide) (XS.iload X5.here hx rfl (hb hby own_dz5_3_3) rfl  k))))) ?_
  refine own_s T5 (mkF m 12 #[rv a1, iv 2, rv a3, iv 2, iv 3, iv 2, iv ch1] [(.int 2), (.ref a1)]) (fun _ k => XS.iload X5.here hx rfl (hb hby own_dz5_3_5) rfl  (XS.icmpNo X5.here hx rfl (hb hby own_dz5_3_7) rfl (tlt (by decide : ((2 : Int32) < (3 : Int32)))).2.1 (XS.aloadN X5.here hx rfl (hb hby own_dz5_3_10) rfl rfl (XS.iloadN X5.here hx rfl (hb hby own_dz5_3_11) rfl  k)))) ?_
  obtain ⟨cl7, Ar7, q7, S7, Nn7, H7, G7⟩ := id f6
  have hin7 : ¬ ((2 : Int32) < 0 ∨ cl7.slots.size ≤ ((2 : Int32)).toNatClampNeg) := (inb_of S7 ⟨by decide, by decide⟩)
  refine own_s T5 (mkF m 26 #[rv a1, iv 2, rv a3, iv 2, iv 3, iv 2, iv ch2] []) (fun _ k => X5.caload hx (j := (2 : Int32)) (v := (.int ch2)) (own_at e5 Ar7.1) (State.isArrayOf_alike hZ.alike Ar7.2.1) Ar7.2.2 hin7 (Has.at H7 hin7 rfl) (g := (mkF m 12 #[rv a1, iv 2, rv a3, iv 2, iv 3, iv 2, iv ch1] [(.int 2), (.ref a1)])) rfl rfl (hb hby own_dz5_3_12) _ (XS.istore X5.here hx rfl (hb hby own_dz5_3_13) rfl (l' := #[rv a1, iv 2, rv a3, iv 2, iv 3, iv 2, iv ch2]) rfl (XS.iload X5.here hx rfl (hb hby own_dz5_3_15) rfl  (XS.sipush X5.here hx rfl (hb hby own_dz5_3_17) (XS.icmpYes X5.here hx rfl (pc0 := 20) (pc' := 26) rfl (hb hby own_dz5_3_20) rfl (flt hc2).2.2.2 (by decide) (by decide) k))))) ?_
  refine own_s T5 (mkF m 31 #[rv a1, iv 2, rv a3, iv 2, iv 3, iv 2, iv ch2] [(.int (ch2.toInt8.toInt32)), (.int 2), (.ref a3)]) (fun _ k => XS.aloadN X5.here hx rfl (hb hby own_dz5_3_26) rfl rfl (XS.iloadN X5.here hx rfl (hb hby own_dz5_3_27) rfl  (XS.iload X5.here hx rfl (hb hby own_dz5_3_28) rfl  (XS.i2b X5.here hx rfl (hb hby own_dz5_3_30) rfl k)))) ?_
  obtain ⟨cl8, Ar8, q8, S8, Nn8, H8, G8⟩ := id f5
  have hin8 : ¬ ((2 : Int32) < 0 ∨ cl8.slots.size ≤ ((2 : Int32)).toNatClampNeg) := (inb_of S8 ⟨by decide, by decide⟩)
  obtain ⟨T8, h8, X8, e8, W8, st8⟩ := stB X5 hx hZ e5 Ar8 (j := (2 : Int32)) hin8 (g := (mkF m 31 #[rv a1, iv 2, rv a3, iv 2, iv 3, iv 2, iv ch2] [(.int (ch2.toInt8.toInt32)), (.int 2), (.ref a3)])) rfl rfl (hb hby own_dz5_3_31)
  have f8 : Arv Z h8 a3 kc .byte (3 : Int32) [(.int (own_by ch0)), (.int (own_by ch1)), (.int (own_by ch2))] (.int 0) := Arv.set Ar8 q8 S8 Nn8 H8 G8 (fits_nar_byte _) W8 2 rfl (Nat.le_of_ble_eq_true rfl)
  have f9 := f6.other W8 hne
  have K8 : Keep h0 h8 [a3] := K5.wr W8 (Or.inl (List.mem_of_getElem? (i := 0) rfl))
  have Z8 := Nat.le_trans Z5 (Nat.le_of_eq W8.size.symm)
  have N8 := Fr.snoc X8 N5 g_a3
  refine own_s T8 (mkF m 32 #[rv a1, iv 2, rv a3, iv 2, iv 3, iv 2, iv ch2] []) st8 ?_
  refine own_s T8 (mkF m 5 #[rv a1, iv 3, rv a3, iv 3, iv 3, iv 3, iv ch2] [(.int 3)]) (fun _ k => XS.iinc X8.here hx rfl (hb hby own_dz5_3_32) rfl (l' := #[rv a1, iv 3, rv a3, iv 2, iv 3, iv 2, iv ch2]) rfl (XS.iinc X8.here hx rfl (hb hby own_dz5_3_35) rfl (l' := #[rv a1, iv 3, rv a3, iv 3, iv 3, iv 2, iv ch2]) rfl (XS.iinc X8.here hx rfl (hb hby own_dz5_3_38) rfl (l' := #[rv a1, iv 3, rv a3, iv 3, iv 3, iv 3, iv ch2]) rfl (XS.goto X8.here hx rfl (pc0 := 41) (pc' := 3) rfl (hb hby own_dz5_3_41) (by decide) (by decide) (XS.iload X8.here hx rfl (hb hby own_dz5_3_3) rfl  k))))) ?_
  refine own_s T8 (mkF m 46 #[rv a1, iv 3, rv a3, iv 3, iv 3, iv 3, iv ch2] [(.int 3)]) (fun _ k => XS.iload X8.here hx rfl (hb hby own_dz5_3_5) rfl  (XS.icmpYes X8.here hx rfl (pc0 := 7) (pc' := 44) rfl (hb hby own_dz5_3_7) rfl (flt (by decide : ¬ ((3 : Int32) < (3 : Int32)))).2.1 (by decide) (by decide) (XS.iload X8.here hx rfl (hb hby own_dz5_3_44) rfl  k))) ?_
  exact own_finI X8 hx hret (hb hby own_dz5_3_46) (own_end (Qv := (own_Qz5_3 Z a1 a3 ka kc ch0 ch1 ch2 h0 n0)) X8 (own_some hret) hlk (by decide) (by decide) e8 ⟨rfl, N8, K8, f8⟩)
theorem own_dz3_3_0 : decode jdk_52_method_16_code 0 = .ok (.iload_n 2, 1) := by decide +kernel
theorem own_dz3_3_1 : decode jdk_52_method_16_code 1 = .ok (.newarray .byte, 2) := by decide +kernel
theorem own_dz3_3_3 : decode jdk_52_method_16_code 3 = .ok (.astore_n 3, 1) := by decide +kernel
theorem own_dz3_3_4 : decode jdk_52_method_16_code 4 = .ok (.aload_n 0, 1) := by decide +kernel
theorem own_dz3_3_5 : decode jdk_52_method_16_code 5 = .ok (.iload_n 1, 1) := by decide +kernel
theorem own_dz3_3_6 : decode jdk_52_method_16_code 6 = .ok (.aload_n 3, 1) := by decide +kernel
theorem own_dz3_3_7 : decode jdk_52_method_16_code 7 = .ok (.iconst 0, 1) := by decide +kernel
theorem own_dz3_3_8 : decode jdk_52_method_16_code 8 = .ok (.iload_n 2, 1) := by decide +kernel
theorem own_dz3_3_9 : decode jdk_52_method_16_code 9 = .ok (.invokestatic 115, 3) := by decide +kernel
theorem own_dz3_3_12 : decode jdk_52_method_16_code 12 = .ok (.istore 4, 2) := by decide +kernel
theorem own_dz3_3_14 : decode jdk_52_method_16_code 14 = .ok (.iload 4, 2) := by decide +kernel
theorem own_dz3_3_16 : decode jdk_52_method_16_code 16 = .ok (.iload_n 2, 1) := by decide +kernel
theorem own_dz3_3_17 : decode jdk_52_method_16_code 17 = .ok (.if_icmp .eq 40, 3) := by decide +kernel
theorem own_dz3_3_57 : decode jdk_52_method_16_code 57 = .ok (.aload_n 3, 1) := by decide +kernel
theorem own_dz3_3_58 : decode jdk_52_method_16_code 58 = .ok (.areturn, 1) := by decide +kernel
theorem own_efz3_3 (m : MethodId) (x0 : Addr) (x1 : Int32) (x2 : Int32) : entryFrame m #[(.ref x0), (.int x1), (.int x2)] 6 = mkF m 0 #[rv x0, iv x1, iv x2, u_, u_, u_] [] := by first | (simp [entryFrame, mkF, argsToLocals, Value.category]; done) | rfl
def own_Qz3_3 (Z : State) (a1 : Addr) (ka : ClassId) (ch0 ch1 ch2 : Int32) (h0 : Heap) (n0 : Nat) : Option Value → Heap → List Loc → Prop := fun v h L => (∃ (b : Addr) (k : ClassId), v = some (.ref b) ∧ n0 ≤ b ∧ h0.size ≤ b ∧ Arv Z h b k .byte (3 : Int32) [(.int (own_by ch0)), (.int (own_by ch1)), (.int (own_by ch2))] (.int 0)) ∧ Fr n0 L ∧ Keep h0 h []
def own_Rz3_3 : Room := { frames := 1, cells := 1, slots := 3, locals := 18 }
set_option maxRecDepth 65536 in
set_option maxHeartbeats 40000000 in
theorem own_rmz3_3 (l : Launch) (Z : State) (a0 : Array Value) (hw : ∀ d ∈ tables_1, d.before a0 Z = true) (ws : List Jvm.Cond) (a1 : Addr) (ka : ClassId) (ch0 ch1 ch2 : Int32) (h0 : Heap) (n0 : Nat) (Z0 : n0 ≤ h0.size) (V1 : Arv Z h0 a1 ka .char (3 : Int32) [(.int ch0), (.int ch1), (.int ch2)] (.int 0)) (hc0 : ¬ (255 : Int32) < ch0) (hc1 : ¬ (255 : Int32) < ch1) (hc2 : ¬ (255 : Int32) < ch2) :
    own_Met l Z own_y1 jdk_52_method_16_code 6 (some (.array .byte)) ws own_Rz3_3 h0 #[(.ref a1), (.int 0), (.int 3)] (own_Qz3_3 Z a1 ka ch0 ch1 ch2 h0 n0) own_Rz3_3.cells own_Rz3_3.slots := by
  refine own_start (plainFor_of_name own_pn0) ?_
  intro p e s m below meth c s₁ X0 hx hZ hby hml hret hlk hown hnm e0
  have hown : s.vm.findClass "java/lang/StringUTF16" = some m.cls := hown
  have hml : c.maxLocals = 6 := hml
  have N0 := Fr.nil n0
  refine own_cast (own_efz3_3 m a1 (0 : Int32) (3 : Int32)) ?_
  refine own_s s₁ (mkF m 1 #[rv a1, iv 0, iv 3, u_, u_, u_] [(.int 3)]) (fun _ k => XS.iloadN X0.here hx rfl (hb hby own_dz3_3_0) rfl  k) ?_
  obtain ⟨T1, h1, k1, X1, e1, E1, A1, st1⟩ := newP X0 hx hZ (own_h hw 23 rfl) e0 (g := (mkF m 1 #[rv a1, iv 0, iv 3, u_, u_, u_] [(.int 3)])) rfl (hb hby own_dz3_3_1) rfl (by decide) (cap := 3) (by decide) (by decide) (by decide) (by decide)
  obtain ⟨b1, g1⟩ : ∃ z, z = h0.size := ⟨_, rfl⟩
  have ne_a1_b1 : a1 ≠ b1 := Nat.ne_of_lt (Nat.lt_of_lt_of_le V1.lt (Nat.le_of_eq g1.symm))
  have g_b1 : n0 ≤ b1 := Nat.le_trans Z0 (Nat.le_of_eq g1.symm)
  have sz_b1 : h0.size ≤ b1 := Nat.le_trans (Keep.refl h0 []).1 (Nat.le_of_eq g1.symm)
  rw [← g1] at A1 st1
  have f2 := V1.ext E1
  have K1 : Keep h0 h1 [] := (Keep.refl h0 []).ext E1
  have Z1 := Nat.le_trans Z0 E1.1
  have f1 : Arv Z h1 b1 k1 .byte 3 [(.int 0), (.int 0), (.int 0)] (.int 0) := (Arv.new A1 (by decide)).pad (pad_rep [] (.int 0) 3)
  refine own_s T1 (mkF m 3 #[rv a1, iv 0, iv 3, u_, u_, u_] [(.ref b1)]) st1 ?_
  refine own_s T1 (mkF m 8 #[rv a1, iv 0, iv 3, rv b1, u_, u_] [(.int 0), (.ref b1), (.int 0), (.ref a1)]) (fun _ k => XS.astoreN X1.here hx rfl (hb hby own_dz3_3_3) rfl rfl (l' := #[rv a1, iv 0, iv 3, rv b1, u_, u_]) rfl (XS.aloadN X1.here hx rfl (hb hby own_dz3_3_4) rfl rfl (XS.iloadN X1.here hx rfl (hb hby own_dz3_3_5) rfl  (XS.aloadN X1.here hx rfl (hb hby own_dz3_3_6) rfl rfl (XS.iconst X1.here hx rfl (hb hby own_dz3_3_7) k))))) ?_
  refine own_s T1 (mkF m 9 #[rv a1, iv 0, iv 3, rv b1, u_, u_] [(.int 3), (.int 0), (.ref b1), (.int 0), (.ref a1)]) (fun _ k => XS.iloadN X1.here hx rfl (hb hby own_dz3_3_8) rfl  k) ?_
  obtain ⟨v3, T3, L3, X3, hQ3, st3⟩ := own_callS X1 hx hZ (y := own_y0) (W := 0) hown (own_h hw 24 rfl) (own_h hw 25 rfl) (own_h hw 21 rfl) (own_h hw 26 rfl) (by decide) (own_rmz5_3 l Z a0 hw [] a1 b1 ka k1 ch0 ch1 ch2 h1 n0 Z1 f2 f1 ne_a1_b1 g_b1 hc0 hc1 hc2) (by decide) (by decide) (g := (mkF m 9 #[rv a1, iv 0, iv 3, rv b1, u_, u_] [(.int 3), (.int 0), (.ref b1), (.int 0), (.ref a1)])) rfl (by rw [hml]; rfl) (argsL := [(.ref a1), (.int 0), (.ref b1), (.int 0), (.int 3)]) (rest := []) rfl (lenOf own_pd0 rfl) rfl (by show 2 * 0 + _ ≤ _; exact Nat.le_of_eq rfl) (hb hby own_dz3_3_9) e1 (by decide) (by decide)
  obtain ⟨rfl, Nq3, Kq3, Vq3⟩ := hQ3
  have N3 := Fr.app N0 Nq3
  have f4 := f2.keep Kq3 (ninS ne_a1_b1 nin0)
  have K3 : Keep h0 T3.heap [] := K1.trans Kq3 (allS (Or.inr sz_b1) all0)
  have Z3 := Nat.le_trans Z1 Kq3.1
  refine own_s T3 (mkF m 12 #[rv a1, iv 0, iv 3, rv b1, u_, u_] [(.int 3)]) st3 ?_
  refine own_s T3 (mkF m 58 #[rv a1, iv 0, iv 3, rv b1, iv 3, u_] [(.ref b1)]) (fun _ k => XS.istore X3.here hx rfl (hb hby own_dz3_3_12) rfl (l' := #[rv a1, iv 0, iv 3, rv b1, iv 3, u_]) rfl (XS.iload X3.here hx rfl (hb hby own_dz3_3_14) rfl  (XS.iloadN X3.here hx rfl (hb hby own_dz3_3_16) rfl  (XS.icmpYes X3.here hx rfl (pc0 := 17) (pc' := 57) rfl (hb hby own_dz3_3_17) rfl (teq (by decide : ((3 : Int32) = (3 : Int32)))).1 (by decide) (by decide) (XS.aloadN X3.here hx rfl (hb hby own_dz3_3_57) rfl rfl k))))) ?_
  exact own_finA X3 hx hret rfl rfl (hb hby own_dz3_3_58) (own_end (Qv := (own_Qz3_3 Z a1 ka ch0 ch1 ch2 h0 n0)) X3 (own_some hret) hlk (by decide) (by decide) rfl ⟨⟨b1, _, rfl, g_b1, sz_b1, Vq3⟩, N3, K3⟩)
theorem own_dcdr_3_0 : decode jdk_52_method_15_code 0 = .ok (.iload_n 1, 1) := by decide +kernel
theorem own_dcdr_3_1 : decode jdk_52_method_15_code 1 = .ok (.aload_n 0, 1) := by decide +kernel
theorem own_dcdr_3_2 : decode jdk_52_method_15_code 2 = .ok (.arraylength, 1) := by decide +kernel
theorem own_dcdr_3_3 : decode jdk_52_method_15_code 3 = .ok (.isub, 1) := by decide +kernel
theorem own_dcdr_3_4 : decode jdk_52_method_15_code 4 = .ok (.bipush 31, 2) := by decide +kernel
theorem own_dcdr_3_6 : decode jdk_52_method_15_code 6 = .ok (.iushr, 1) := by decide +kernel
theorem own_dcdr_3_7 : decode jdk_52_method_15_code 7 = .ok (.i2b, 1) := by decide +kernel
theorem own_dcdr_3_8 : decode jdk_52_method_15_code 8 = .ok (.ireturn, 1) := by decide +kernel
theorem own_efcdr_3 (m : MethodId) (x0 : Addr) (x1 : Int32) : entryFrame m #[(.ref x0), (.int x1)] 2 = mkF m 0 #[rv x0, iv x1] [] := by first | (simp [entryFrame, mkF, argsToLocals, Value.category]; done) | rfl
def own_Qcdr_3 (Z : State) (a1 : Addr) (ka : ClassId) (ch0 ch1 ch2 : Int32) (h0 : Heap) (n0 : Nat) : Option Value → Heap → List Loc → Prop := fun v h L => v = some (.int 0) ∧ Fr n0 L ∧ h = h0
def own_Rcdr_3 : Room := { frames := 0, cells := 0, slots := 0, locals := 0 }
set_option maxRecDepth 65536 in
set_option maxHeartbeats 40000000 in
theorem own_rmcdr_3 (l : Launch) (Z : State) (a0 : Array Value) (hw : ∀ d ∈ tables_1, d.before a0 Z = true) (ws : List Jvm.Cond) (a1 : Addr) (ka : ClassId) (ch0 ch1 ch2 : Int32) (h0 : Heap) (n0 : Nat) (Z0 : n0 ≤ h0.size) (V1 : Arv Z h0 a1 ka .byte (3 : Int32) [(.int (own_by ch0)), (.int (own_by ch1)), (.int (own_by ch2))] (.int 0)) :
    own_Met l Z own_y2 jdk_52_method_15_code 2 (some .byte) ws own_Rcdr_3 h0 #[(.ref a1), (.int 3)] (own_Qcdr_3 Z a1 ka ch0 ch1 ch2 h0 n0) own_Rcdr_3.cells own_Rcdr_3.slots := by
  refine own_start (plainFor_of_name own_pn0) ?_
  intro p e s m below meth c s₁ X0 hx hZ hby hml hret hlk hown hnm e0
  have hown : s.vm.findClass "java/lang/StringUTF16" = some m.cls := hown
  have hml : c.maxLocals = 2 := hml
  have N0 := Fr.nil n0
  refine own_cast (own_efcdr_3 m a1 (3 : Int32)) ?_
  refine own_s s₁ (mkF m 2 #[rv a1, iv 3] [(.ref a1), (.int 3)]) (fun _ k => XS.iloadN X0.here hx rfl (hb hby own_dcdr_3_0) rfl  (XS.aloadN X0.here hx rfl (hb hby own_dcdr_3_1) rfl rfl k)) ?_
  obtain ⟨cl1, Ar1, q1, S1, Nn1, H1, G1⟩ := id V1
  refine own_s s₁ (mkF m 8 #[rv a1, iv 3] [(.int ((((0 : Int32).toUInt32 >>> ((31 : Int32) &&& 31).toUInt32).toInt32).toInt8.toInt32))]) (fun _ k => own_len X0 hx hZ e0 Ar1 S1 Nn1 (g := (mkF m 2 #[rv a1, iv 3] [(.ref a1), (.int 3)])) rfl rfl (hb hby own_dcdr_3_2) (XS.isub X0.here hx rfl (hb hby own_dcdr_3_3) rfl (XS.bipush X0.here hx rfl (hb hby own_dcdr_3_4) (XS.iushr X0.here hx rfl (hb hby own_dcdr_3_6) rfl (XS.i2b X0.here hx rfl (hb hby own_dcdr_3_7) rfl k))))) ?_
  exact own_finZ X0 hx (t := .byte) hret (by simp) (z' := (0 : Int32)) (by decide) (hb hby own_dcdr_3_8) (own_end (Qv := (own_Qcdr_3 Z a1 ka ch0 ch1 ch2 h0 n0)) X0 (own_some hret) hlk (by decide) (by decide) e0 ⟨rfl, N0, rfl⟩)
theorem own_dsi4_3_0 : decode jdk_42_method_149_code 0 = .ok (.aload_n 0, 1) := by decide +kernel
theorem own_dsi4_3_1 : decode jdk_42_method_149_code 1 = .ok (.invokespecial 1, 3) := by decide +kernel
theorem own_dsi4_3_4 : decode jdk_42_method_149_code 4 = .ok (.iload_n 3, 1) := by decide +kernel
theorem own_dsi4_3_5 : decode jdk_42_method_149_code 5 = .ok (.ifCond .ne 22, 3) := by decide +kernel
theorem own_dsi4_3_27 : decode jdk_42_method_149_code 27 = .ok (.getstatic 38, 3) := by decide +kernel
theorem own_dsi4_3_30 : decode jdk_42_method_149_code 30 = .ok (.ifCond .eq 28, 3) := by decide +kernel
theorem own_dsi4_3_33 : decode jdk_42_method_149_code 33 = .ok (.aload_n 1, 1) := by decide +kernel
theorem own_dsi4_3_34 : decode jdk_42_method_149_code 34 = .ok (.iload_n 2, 1) := by decide +kernel
theorem own_dsi4_3_35 : decode jdk_42_method_149_code 35 = .ok (.iload_n 3, 1) := by decide +kernel
theorem own_dsi4_3_36 : decode jdk_42_method_149_code 36 = .ok (.invokestatic 177, 3) := by decide +kernel
theorem own_dsi4_3_39 : decode jdk_42_method_149_code 39 = .ok (.astore 5, 2) := by decide +kernel
theorem own_dsi4_3_41 : decode jdk_42_method_149_code 41 = .ok (.aload_n 0, 1) := by decide +kernel
theorem own_dsi4_3_42 : decode jdk_42_method_149_code 42 = .ok (.aload 5, 2) := by decide +kernel
theorem own_dsi4_3_44 : decode jdk_42_method_149_code 44 = .ok (.iload_n 3, 1) := by decide +kernel
theorem own_dsi4_3_45 : decode jdk_42_method_149_code 45 = .ok (.invokestatic 47, 3) := by decide +kernel
theorem own_dsi4_3_48 : decode jdk_42_method_149_code 48 = .ok (.putfield 15, 3) := by decide +kernel
theorem own_dsi4_3_51 : decode jdk_42_method_149_code 51 = .ok (.aload_n 0, 1) := by decide +kernel
theorem own_dsi4_3_52 : decode jdk_42_method_149_code 52 = .ok (.aload 5, 2) := by decide +kernel
theorem own_dsi4_3_54 : decode jdk_42_method_149_code 54 = .ok (.putfield 9, 3) := by decide +kernel
theorem own_dsi4_3_57 : decode jdk_42_method_149_code 57 = .ok (.return_, 1) := by decide +kernel
theorem own_efsi4_3 (m : MethodId) (x0 : Addr) (x1 : Addr) (x2 : Int32) (x3 : Int32) : entryFrame m #[(.ref x0), (.ref x1), (.int x2), (.int x3), .null] 6 = mkF m 0 #[rv x0, rv x1, iv x2, iv x3, .val .null, u_] [] := by first | (simp [entryFrame, mkF, argsToLocals, Value.category]; done) | rfl
def own_Qsi4_3 (Z : State) (a1 : Addr) (a2 : Addr) (kb : ClassId) (gC : Int32) (ch0 ch1 ch2 : Int32) (h0 : Heap) (n0 : Nat) : Option Value → Heap → List Loc → Prop := fun v h L => v = none ∧ Fr n0 L ∧ Keep h0 h [a1] ∧ Exa Z h a1 "java/lang/String" ∧ Fld Z h a1 "java/lang/String" "coder" "B" (.int 0) ∧ ∃ (b : Addr) (k : ClassId), n0 ≤ b ∧ h0.size ≤ b ∧ Fld Z h a1 "java/lang/String" "value" "[B" (.ref b) ∧ Arv Z h b k .byte (3 : Int32) [(.int (own_by ch0)), (.int (own_by ch1)), (.int (own_by ch2))] (.int 0)
def own_Rsi4_3 : Room := { frames := 2, cells := 1, slots := 3, locals := 35 }
set_option maxRecDepth 65536 in
set_option maxHeartbeats 40000000 in
theorem own_rmsi4_3 (l : Launch) (Z : State) (a0 : Array Value) (hw : ∀ d ∈ tables_1, d.before a0 Z = true) (ws : List Jvm.Cond) (a1 : Addr) (a2 : Addr) (kb : ClassId) (gC : Int32) (ch0 ch1 ch2 : Int32) (h0 : Heap) (n0 : Nat) (Z0 : n0 ≤ h0.size) (g_a1 : n0 ≤ a1) (E1 : Exa Z h0 a1 "java/lang/String") (C1 : Fld Z h0 a1 "java/lang/String" "coder" "B" (.int 0)) (W1 : Fld Z h0 a1 "java/lang/String" "value" "[B" .null) (V2 : Arv Z h0 a2 kb .char (3 : Int32) [(.int ch0), (.int ch1), (.int ch2)] (.int 0)) (hne : a2 ≠ a1) (SC : Sta Z h0 "java/lang/String" "COMPACT_STRINGS" "Z" (.int gC)) (hG : ¬ gC = (0 : Int32)) (hc0 : ¬ (255 : Int32) < ch0) (hc1 : ¬ (255 : Int32) < ch1) (hc2 : ¬ (255 : Int32) < ch2) :
    own_Met l Z own_y3 jdk_42_method_149_code 6 none ws own_Rsi4_3 h0 #[(.ref a1), (.ref a2), (.int 0), (.int 3), .null] (own_Qsi4_3 Z a1 a2 kb gC ch0 ch1 ch2 h0 n0) own_Rsi4_3.cells own_Rsi4_3.slots := by
  refine own_start (plainFor_of_name own_pn1) ?_
  intro p e s m below meth c s₁ X0 hx hZ hby hml hret hlk hown hnm e0
  have hown : s.vm.findClass "java/lang/String" = some m.cls := hown
  have hml : c.maxLocals = 6 := hml
  have N0 := Fr.nil n0
  refine own_cast (own_efsi4_3 m a1 a2 (0 : Int32) (3 : Int32)) ?_
  refine own_s s₁ (mkF m 1 #[rv a1, rv a2, iv 0, iv 3, .val .null, u_] [(.ref a1)]) (fun _ k => XS.aloadN X0.here hx rfl (hb hby own_dsi4_3_0) rfl rfl k) ?_
  obtain ⟨T1, X1, e1, st1⟩ := initO X0 hx hZ hown (own_h hw 15 rfl) (own_h hw 16 rfl) (own_h hw 17 rfl) e0 (g := (mkF m 1 #[rv a1, rv a2, iv 0, iv 3, .val .null, u_] [(.ref a1)])) rfl (by rw [hml]; rfl) rfl (hb hby own_dsi4_3_1) (by decide) (W := 0) (by show 2 * 0 + _ ≤ _; exact Nat.le_of_eq rfl) (by decide)
  refine own_s T1 (mkF m 4 #[rv a1, rv a2, iv 0, iv 3, .val .null, u_] []) st1 ?_
  refine own_s T1 (mkF m 27 #[rv a1, rv a2, iv 0, iv 3, .val .null, u_] []) (fun _ k => XS.iloadN X1.here hx rfl (hb hby own_dsi4_3_4) rfl  (XS.ifYes X1.here hx rfl (pc0 := 5) (pc' := 27) rfl (hb hby own_dsi4_3_5) rfl ((if0 _ _).trans (feq (by decide : ¬ ((3 : Int32) = (0 : Int32)))).2) (by decide) (by decide) k)) ?_
  obtain ⟨T2, X2, e2, st2⟩ := getS2 X1 hx hZ hown (host := "") (Or.inl (own_h hw 18 rfl)) Via.refl e1 SC (g := (mkF m 27 #[rv a1, rv a2, iv 0, iv 3, .val .null, u_] [])) rfl (hb hby own_dsi4_3_27)
  refine own_s T2 (mkF m 30 #[rv a1, rv a2, iv 0, iv 3, .val .null, u_] [(.int gC)]) st2 ?_
  refine own_s T2 (mkF m 36 #[rv a1, rv a2, iv 0, iv 3, .val .null, u_] [(.int 3), (.int 0), (.ref a2)]) (fun _ k => XS.ifNo X2.here hx rfl (hb hby own_dsi4_3_30) rfl ((if0 _ _).trans (feq hG).1) (XS.aloadN X2.here hx rfl (hb hby own_dsi4_3_33) rfl rfl (XS.iloadN X2.here hx rfl (hb hby own_dsi4_3_34) rfl  (XS.iloadN X2.here hx rfl (hb hby own_dsi4_3_35) rfl  k)))) ?_
  obtain ⟨v3, T3, L3, X3, hQ3, st3⟩ := own_callS X2 hx hZ (y := own_y1) (W := 0) hown (own_h hw 19 rfl) (own_h hw 20 rfl) (own_h hw 21 rfl) (own_h hw 22 rfl) (by decide) (own_rmz3_3 l Z a0 hw [] a2 kb ch0 ch1 ch2 h0 n0 Z0 V2 hc0 hc1 hc2) (by decide) (by decide) (g := (mkF m 36 #[rv a1, rv a2, iv 0, iv 3, .val .null, u_] [(.int 3), (.int 0), (.ref a2)])) rfl (by rw [hml]; rfl) (argsL := [(.ref a2), (.int 0), (.int 3)]) (rest := []) rfl (lenOf own_pd1 rfl) rfl (by show 2 * 0 + _ ≤ _; exact Nat.le_of_eq rfl) (hb hby own_dsi4_3_36) e2 (by decide) (by decide)
  obtain ⟨⟨b3, k3, rfl, g_b3, sq3, Vq3⟩, Nq3, Kq3⟩ := hQ3
  have N3 := Fr.app N0 Nq3
  have ne_a1_b3 : a1 ≠ b3 := Nat.ne_of_lt (Nat.lt_of_lt_of_le E1.lt sq3)
  have ne_a2_b3 : a2 ≠ b3 := Nat.ne_of_lt (Nat.lt_of_lt_of_le V2.lt sq3)
  have sz_b3 : h0.size ≤ b3 := Nat.le_trans (Keep.refl h0 [a1]).1 sq3
  have f4 := E1.keep Kq3
  have f5 := C1.keep Kq3 nin0
  have f6 := W1.keep Kq3 nin0
  have f7 := V2.keep Kq3 nin0
  have f8 := own_staKeep SC Kq3
  have K3 : Keep h0 T3.heap [a1] := (Keep.refl h0 [a1]).trans Kq3 all0
  have Z3 := Nat.le_trans Z0 Kq3.1
  refine own_s T3 (mkF m 39 #[rv a1, rv a2, iv 0, iv 3, .val .null, u_] [(.ref b3)]) st3 ?_
  refine own_s T3 (mkF m 45 #[rv a1, rv a2, iv 0, iv 3, .val .null, rv b3] [(.int 3), (.ref b3), (.ref a1)]) (fun _ k => XS.astore X3.here hx rfl (hb hby own_dsi4_3_39) rfl rfl (l' := #[rv a1, rv a2, iv 0, iv 3, .val .null, rv b3]) rfl (XS.aloadN X3.here hx rfl (hb hby own_dsi4_3_41) rfl rfl (XS.aload X3.here hx rfl (hb hby own_dsi4_3_42) rfl rfl (XS.iloadN X3.here hx rfl (hb hby own_dsi4_3_44) rfl  k)))) ?_
  obtain ⟨v9, T9, L9, X9, hQ9, st9⟩ := own_callS X3 hx hZ (y := own_y2) (W := 1) hown (own_h hw 27 rfl) (own_h hw 28 rfl) (own_h hw 21 rfl) (own_h hw 29 rfl) (by decide) (own_rmcdr_3 l Z a0 hw [] b3 k3 ch0 ch1 ch2 T3.heap n0 Z3 Vq3) (by decide) (by decide) (g := (mkF m 45 #[rv a1, rv a2, iv 0, iv 3, .val .null, rv b3] [(.int 3), (.ref b3), (.ref a1)])) rfl (by rw [hml]; rfl) (argsL := [(.ref b3), (.int 3)]) (rest := [(.ref a1)]) rfl (lenOf own_pd2 rfl) rfl (by show 2 * 0 + _ ≤ _; exact Nat.le_of_eq rfl) (hb hby own_dsi4_3_45) rfl (by decide) (by decide)
  obtain ⟨rfl, Nq9, e9⟩ := hQ9
  have N9 := Fr.app N3 Nq9
  refine own_s T9 (mkF m 48 #[rv a1, rv a2, iv 0, iv 3, .val .null, rv b3] [(.int 0), (.ref a1)]) st9 ?_
  obtain ⟨T10, h10, X10, e10, W10, st10⟩ := putFN X9 hx hZ hown (own_h hw 30 rfl) Via.refl e9 f5 f4 (Or.inr ⟨(own_h hw 31 rfl), rfl, hnm⟩) (own_h hw 5 rfl) (ty := .byte) (v' := (.int 0)) (by decide) rfl rfl (g := (mkF m 48 #[rv a1, rv a2, iv 0, iv 3, .val .null, rv b3] [(.int 0), (.ref a1)])) rfl rfl (hb hby own_dsi4_3_48)
  have Fw10 := Fld.same W10 f5
  have f11 := Exa.wr W10 f4
  have f12 := Fld.other W10 f6 (Or.inr (slot_ne (Or.inr (own_h hw 33 rfl)) (Or.inr (own_h hw 31 rfl)) (by decide) (t := (.array .byte)) (t' := .byte) (by decide) (by decide)))
  have f13 := f7.other W10 hne
  have f14 := Sta.wr W10 f8
  have f15 := Vq3.other W10 (Ne.symm ne_a1_b3)
  have K10 : Keep h0 h10 [a1] := K3.wr W10 (Or.inl (List.mem_of_getElem? (i := 0) rfl))
  have Z10 := Nat.le_trans Z3 (Nat.le_of_eq W10.size.symm)
  have N10 := Fr.snoc X10 N9 g_a1
  refine own_s T10 (mkF m 51 #[rv a1, rv a2, iv 0, iv 3, .val .null, rv b3] []) st10 ?_
  refine own_s T10 (mkF m 54 #[rv a1, rv a2, iv 0, iv 3, .val .null, rv b3] [(.ref b3), (.ref a1)]) (fun _ k => XS.aloadN X10.here hx rfl (hb hby own_dsi4_3_51) rfl rfl (XS.aload X10.here hx rfl (hb hby own_dsi4_3_52) rfl rfl k)) ?_
  obtain ⟨T16, h16, X16, e16, W16, st16⟩ := putF X10 hx hZ hown (host := "") (Or.inl (own_h hw 32 rfl)) Via.refl e10 f12 f11 (Or.inr ⟨(own_h hw 33 rfl), rfl, hnm⟩) (own_h hw 5 rfl) (ty := (.array .byte)) (by decide) rfl rfl (g := (mkF m 54 #[rv a1, rv a2, iv 0, iv 3, .val .null, rv b3] [(.ref b3), (.ref a1)])) rfl rfl (hb hby own_dsi4_3_54)
  have Fw16 := Fld.same W16 f12
  have f17 := Exa.wr W16 f11
  have f18 := Fld.other W16 Fw10 (Or.inr (slot_ne (Or.inr (own_h hw 31 rfl)) (Or.inr (own_h hw 33 rfl)) (by decide) (t := .byte) (t' := (.array .byte)) (by decide) (by decide)))
  have f19 := f13.other W16 hne
  have f20 := Sta.wr W16 f14
  have f21 := f15.other W16 (Ne.symm ne_a1_b3)
  have K16 : Keep h0 h16 [a1] := K10.wr W16 (Or.inl (List.mem_of_getElem? (i := 0) rfl))
  have Z16 := Nat.le_trans Z10 (Nat.le_of_eq W16.size.symm)
  have N16 := Fr.snoc X16 N10 g_a1
  refine own_s T16 (mkF m 57 #[rv a1, rv a2, iv 0, iv 3, .val .null, rv b3] []) st16 ?_
  exact own_finV X16 hx hret (hb hby own_dsi4_3_57) (own_end (Qv := (own_Qsi4_3 Z a1 a2 kb gC ch0 ch1 ch2 h0 n0)) X16 (fun _ => rfl) hlk (by decide) (by decide) e16 ⟨rfl, N16, K16, f17, f18, b3, _, g_b3, sz_b3, Fw16, f21⟩)
theorem own_dsi1_3_0 : decode jdk_42_method_3_code 0 = .ok (.aload_n 0, 1) := by decide +kernel
theorem own_dsi1_3_1 : decode jdk_42_method_3_code 1 = .ok (.aload_n 1, 1) := by decide +kernel
theorem own_dsi1_3_2 : decode jdk_42_method_3_code 2 = .ok (.iconst 0, 1) := by decide +kernel
theorem own_dsi1_3_3 : decode jdk_42_method_3_code 3 = .ok (.aload_n 1, 1) := by decide +kernel
theorem own_dsi1_3_4 : decode jdk_42_method_3_code 4 = .ok (.arraylength, 1) := by decide +kernel
theorem own_dsi1_3_5 : decode jdk_42_method_3_code 5 = .ok (.aconst_null, 1) := by decide +kernel
theorem own_dsi1_3_6 : decode jdk_42_method_3_code 6 = .ok (.invokespecial 27, 3) := by decide +kernel
theorem own_dsi1_3_9 : decode jdk_42_method_3_code 9 = .ok (.return_, 1) := by decide +kernel
theorem own_efsi1_3 (m : MethodId) (x0 : Addr) (x1 : Addr) : entryFrame m #[(.ref x0), (.ref x1)] 2 = mkF m 0 #[rv x0, rv x1] [] := by first | (simp [entryFrame, mkF, argsToLocals, Value.category]; done) | rfl
def own_Qsi1_3 (Z : State) (a1 : Addr) (a2 : Addr) (kb : ClassId) (gC : Int32) (ch0 ch1 ch2 : Int32) (h0 : Heap) (n0 : Nat) : Option Value → Heap → List Loc → Prop := fun v h L => v = none ∧ Fr n0 L ∧ Keep h0 h [a1] ∧ Exa Z h a1 "java/lang/String" ∧ Fld Z h a1 "java/lang/String" "coder" "B" (.int 0) ∧ ∃ (b : Addr) (k : ClassId), n0 ≤ b ∧ h0.size ≤ b ∧ Fld Z h a1 "java/lang/String" "value" "[B" (.ref b) ∧ Arv Z h b k .byte (3 : Int32) [(.int (own_by ch0)), (.int (own_by ch1)), (.int (own_by ch2))] (.int 0)
def own_Rsi1_3 : Room := { frames := 3, cells := 1, slots := 3, locals := 52 }
set_option maxRecDepth 65536 in
set_option maxHeartbeats 40000000 in
theorem own_rmsi1_3 (l : Launch) (Z : State) (a0 : Array Value) (hw : ∀ d ∈ tables_1, d.before a0 Z = true) (ws : List Jvm.Cond) (a1 : Addr) (a2 : Addr) (kb : ClassId) (gC : Int32) (ch0 ch1 ch2 : Int32) (h0 : Heap) (n0 : Nat) (Z0 : n0 ≤ h0.size) (g_a1 : n0 ≤ a1) (E1 : Exa Z h0 a1 "java/lang/String") (C1 : Fld Z h0 a1 "java/lang/String" "coder" "B" (.int 0)) (W1 : Fld Z h0 a1 "java/lang/String" "value" "[B" .null) (V2 : Arv Z h0 a2 kb .char (3 : Int32) [(.int ch0), (.int ch1), (.int ch2)] (.int 0)) (hne : a2 ≠ a1) (SC : Sta Z h0 "java/lang/String" "COMPACT_STRINGS" "Z" (.int gC)) (hG : ¬ gC = (0 : Int32)) (hc0 : ¬ (255 : Int32) < ch0) (hc1 : ¬ (255 : Int32) < ch1) (hc2 : ¬ (255 : Int32) < ch2) :
    own_Met l Z own_y4 jdk_42_method_3_code 2 none ws own_Rsi1_3 h0 #[(.ref a1), (.ref a2)] (own_Qsi1_3 Z a1 a2 kb gC ch0 ch1 ch2 h0 n0) own_Rsi1_3.cells own_Rsi1_3.slots := by
  refine own_start (plainFor_of_name own_pn1) ?_
  intro p e s m below meth c s₁ X0 hx hZ hby hml hret hlk hown hnm e0
  have hown : s.vm.findClass "java/lang/String" = some m.cls := hown
  have hml : c.maxLocals = 2 := hml
  have N0 := Fr.nil n0
  refine own_cast (own_efsi1_3 m a1 a2) ?_
  refine own_s s₁ (mkF m 4 #[rv a1, rv a2] [(.ref a2), (.int 0), (.ref a2), (.ref a1)]) (fun _ k => XS.aloadN X0.here hx rfl (hb hby own_dsi1_3_0) rfl rfl (XS.aloadN X0.here hx rfl (hb hby own_dsi1_3_1) rfl rfl (XS.iconst X0.here hx rfl (hb hby own_dsi1_3_2) (XS.aloadN X0.here hx rfl (hb hby own_dsi1_3_3) rfl rfl k)))) ?_
  obtain ⟨cl1, Ar1, q1, S1, Nn1, H1, G1⟩ := id V2
  refine own_s s₁ (mkF m 6 #[rv a1, rv a2] [.null, (.int 3), (.int 0), (.ref a2), (.ref a1)]) (fun _ k => own_len X0 hx hZ e0 Ar1 S1 Nn1 (g := (mkF m 4 #[rv a1, rv a2] [(.ref a2), (.int 0), (.ref a2), (.ref a1)])) rfl rfl (hb hby own_dsi1_3_4) (XS.aconstNull X0.here hx rfl (hb hby own_dsi1_3_5) k)) ?_
  obtain ⟨v2, T2, L2, X2, hQ2, st2⟩ := own_callI X0 hx hZ (y := own_y3) (W := 0) (a := a1) rfl hown (own_h hw 11 rfl) (own_h hw 12 rfl) (own_h hw 6 rfl) (own_h hw 14 rfl) (by decide) (own_rmsi4_3 l Z a0 hw [] a1 a2 kb gC ch0 ch1 ch2 h0 n0 Z0 g_a1 E1 C1 W1 V2 hne SC hG hc0 hc1 hc2) (by decide) (by decide) (g := (mkF m 6 #[rv a1, rv a2] [.null, (.int 3), (.int 0), (.ref a2), (.ref a1)])) rfl (by rw [hml]; rfl) (argsL := [(.ref a2), (.int 0), (.int 3), .null]) (rest := []) rfl (lenOf own_pd3 rfl) rfl (by show 2 * 0 + _ ≤ _; exact Nat.le_of_eq rfl) (hb hby own_dsi1_3_6) e0 (by decide) (by decide)
  obtain ⟨rfl, Nq2, Kq2, Eq2, Cq2, b2, k2, g_b2, sq2, Wq2, Vq2⟩ := hQ2
  have N2 := Fr.app N0 Nq2
  have ne_a1_b2 : a1 ≠ b2 := Nat.ne_of_lt (Nat.lt_of_lt_of_le E1.lt sq2)
  have ne_a2_b2 : a2 ≠ b2 := Nat.ne_of_lt (Nat.lt_of_lt_of_le V2.lt sq2)
  have sz_b2 : h0.size ≤ b2 := Nat.le_trans (Keep.refl h0 [a1]).1 sq2
  have f3 := V2.keep Kq2 (ninS hne nin0)
  have f4 := own_staKeepW SC Kq2 (allS E1.nostat all0)
  have K2 : Keep h0 T2.heap [a1] := (Keep.refl h0 [a1]).trans Kq2 (allS (Or.inl (List.mem_of_getElem? (i := 0) rfl)) all0)
  have Z2 := Nat.le_trans Z0 Kq2.1
  refine own_s T2 (mkF m 9 #[rv a1, rv a2] []) st2 ?_
  exact own_finV X2 hx hret (hb hby own_dsi1_3_9) (own_end (Qv := (own_Qsi1_3 Z a1 a2 kb gC ch0 ch1 ch2 h0 n0)) X2 (fun _ => rfl) hlk (by decide) (by decide) rfl ⟨rfl, N2, K2, Eq2, Cq2, b2, _, g_b2, sz_b2, Wq2, Vq2⟩)
theorem own_dsi4_0_0 : decode jdk_42_method_149_code 0 = .ok (.aload_n 0, 1) := by decide +kernel
theorem own_dsi4_0_1 : decode jdk_42_method_149_code 1 = .ok (.invokespecial 1, 3) := by decide +kernel
theorem own_dsi4_0_4 : decode jdk_42_method_149_code 4 = .ok (.iload_n 3, 1) := by decide +kernel
theorem own_dsi4_0_5 : decode jdk_42_method_149_code 5 = .ok (.ifCond .ne 22, 3) := by decide +kernel
theorem own_dsi4_0_8 : decode jdk_42_method_149_code 8 = .ok (.aload_n 0, 1) := by decide +kernel
theorem own_dsi4_0_9 : decode jdk_42_method_149_code 9 = .ok (.ldc 7, 2) := by decide +kernel
theorem own_dsi4_0_11 : decode jdk_42_method_149_code 11 = .ok (.getfield 9, 3) := by decide +kernel
theorem own_dsi4_0_14 : decode jdk_42_method_149_code 14 = .ok (.putfield 9, 3) := by decide +kernel
theorem own_dsi4_0_17 : decode jdk_42_method_149_code 17 = .ok (.aload_n 0, 1) := by decide +kernel
theorem own_dsi4_0_18 : decode jdk_42_method_149_code 18 = .ok (.ldc 7, 2) := by decide +kernel
theorem own_dsi4_0_20 : decode jdk_42_method_149_code 20 = .ok (.getfield 15, 3) := by decide +kernel
theorem own_dsi4_0_23 : decode jdk_42_method_149_code 23 = .ok (.putfield 15, 3) := by decide +kernel
theorem own_dsi4_0_26 : decode jdk_42_method_149_code 26 = .ok (.return_, 1) := by decide +kernel
theorem own_efsi4_0 (m : MethodId) (x0 : Addr) (x1 : Addr) (x2 : Int32) (x3 : Int32) : entryFrame m #[(.ref x0), (.ref x1), (.int x2), (.int x3), .null] 6 = mkF m 0 #[rv x0, rv x1, iv x2, iv x3, .val .null, u_] [] := by first | (simp [entryFrame, mkF, argsToLocals, Value.category]; done) | rfl
def own_Qsi4_0 (Z : State) (a1 : Addr) (a2 : Addr) (h0 : Heap) (n0 : Nat) : Option Value → Heap → Vm → List Loc → Prop := fun v h vm L => v = none ∧ Fr n0 L ∧ Keep h0 h [a1] ∧ Exa Z h a1 "java/lang/String" ∧ Fld Z h a1 "java/lang/String" "coder" "B" (.int 0) ∧ (∃ (b : Addr) (k : ClassId), Fld Z h a1 "java/lang/String" "value" "[B" (.ref b) ∧ Arv Z h b k .byte 0 [] (.int 0)) ∧ own_EL Z vm h
def own_Rsi4_0 : Room := { frames := 1, cells := 2, slots := 4, locals := 12 }
set_option maxRecDepth 65536 in
set_option maxHeartbeats 40000000 in
theorem own_rmsi4_0 (l : Launch) (Z : State) (a0 : Array Value) (hw : ∀ d ∈ tables_1, d.before a0 Z = true) (ws : List Jvm.Cond) (a1 : Addr) (a2 : Addr) (h0 : Heap) (n0 : Nat) (Z0 : n0 ≤ h0.size) (g_a1 : n0 ≤ a1) (E1 : Exa Z h0 a1 "java/lang/String") (C1 : Fld Z h0 a1 "java/lang/String" "coder" "B" (.int 0)) (W1 : Fld Z h0 a1 "java/lang/String" "value" "[B" .null) (hO : Old Z n0 h0) (hh : Jvm.Lit.constHeld Z "java/lang/String" 7) (hcw : Jvm.Lit.compactW.before a0 Z = true) :
    own_MetW l Z own_y3 jdk_42_method_149_code 6 none ws own_Rsi4_0 h0 (fun vm => own_EL Z vm h0) #[(.ref a1), (.ref a2), (.int 0), (.int 0), .null] (own_Qsi4_0 Z a1 a2 h0 n0) own_Rsi4_0.cells own_Rsi4_0.slots := by
  refine own_startW (plainFor_of_name own_pn1) ?_
  intro p e s m below meth c s₁ X0 hx hZ hby hml hret hlk hown hnm e0 hS hs0 hJ
  have hk0 : 0 ≤ h0.size := Nat.zero_le _
  have hown : s.vm.findClass "java/lang/String" = some m.cls := hown
  have hml : c.maxLocals = 6 := hml
  have N0 := Fr.nil n0
  refine own_cast (own_efsi4_0 m a1 a2 (0 : Int32) (0 : Int32)) ?_
  refine own_s s₁ (mkF m 1 #[rv a1, rv a2, iv 0, iv 0, .val .null, u_] [(.ref a1)]) (fun _ k => XS.aloadN X0.here hx rfl (hb hby own_dsi4_0_0) rfl rfl k) ?_
  obtain ⟨T1, X1, e1, st1⟩ := initO X0 hx hZ hown (own_h hw 15 rfl) (own_h hw 16 rfl) (own_h hw 17 rfl) e0 (g := (mkF m 1 #[rv a1, rv a2, iv 0, iv 0, .val .null, u_] [(.ref a1)])) rfl (by rw [hml]; rfl) rfl (hb hby own_dsi4_0_1) (by decide) (W := 0) (by show 2 * 0 + _ ≤ _; exact Nat.le_of_eq rfl) (by decide)
  refine own_s T1 (mkF m 4 #[rv a1, rv a2, iv 0, iv 0, .val .null, u_] []) st1 ?_
  refine own_s T1 (mkF m 9 #[rv a1, rv a2, iv 0, iv 0, .val .null, u_] [(.ref a1)]) (fun _ k => XS.iloadN X1.here hx rfl (hb hby own_dsi4_0_4) rfl  (XS.ifNo X1.here hx rfl (hb hby own_dsi4_0_5) rfl ((if0 _ _).trans (teq (by decide : ((0 : Int32) = (0 : Int32)))).2) (XS.aloadN X1.here hx rfl (hb hby own_dsi4_0_8) rfl rfl k))) ?_
  rcases hJ with hI | ⟨sl, bb, kbb, hL, Ex, Fc, Fv, Av⟩
  · obtain ⟨sl, T2, h2, kk2, bb, kbb, X2, e2, E2, hS, hk2, hZ, hown, Ex, Fc, Fv, Av, -, -, -, hL, st2⟩ := ldcSVL (s := s) X1 hx hZ hown (own_h hw 102 rfl) (own_wS hw) e1 hS hk0 (Fr.nil _) (fun b cl q => by rw [hs0]; exact hO.2.2 b cl q) hI (by simp) hh hcw (vs := []) (z := 0) ⟨by simp, by simp⟩ (by decide) rfl (g := (mkF m 9 #[rv a1, rv a2, iv 0, iv 0, .val .null, u_] [(.ref a1)])) rfl (hb hby own_dsi4_0_9) (n := 0) (by decide) (by decide) (by decide) (by decide)
    have f3 := Exa.ext E2 E1
    have f4 := Fld.ext E2 C1
    have f5 := Fld.ext E2 W1
    have K2 : Keep h0 h2 [a1] := (Keep.refl h0 [a1]).ext E2
    have Z2 := Nat.le_trans Z0 E2.1
    have ne1 : a1 ≠ sl := Fld.ne f5 Fv (by simp)
    have ne2 : a1 ≠ bb := Exa.neArv f3 Av (own_h hw 5 rfl)
    refine own_s T2 (mkF m 11 #[rv a1, rv a2, iv 0, iv 0, .val .null, u_] [(.ref sl), (.ref a1)]) st2 ?_
    obtain ⟨T6, X6, e6, st6⟩ := getF X2 hx hZ hown (host := "") (Or.inl (own_h hw 32 rfl)) Via.refl e2 Fv (g := (mkF m 11 #[rv a1, rv a2, iv 0, iv 0, .val .null, u_] [(.ref sl), (.ref a1)])) rfl rfl (hb hby own_dsi4_0_11)
    refine own_s T6 (mkF m 14 #[rv a1, rv a2, iv 0, iv 0, .val .null, u_] [(.ref bb), (.ref a1)]) st6 ?_
    obtain ⟨T7, h7, X7, e7, W7, st7⟩ := putF X6 hx hZ hown (host := "") (Or.inl (own_h hw 32 rfl)) Via.refl e6 f5 f3 (Or.inr ⟨(own_h hw 33 rfl), rfl, hnm⟩) (own_h hw 5 rfl) (ty := (.array .byte)) (by decide) rfl rfl (g := (mkF m 14 #[rv a1, rv a2, iv 0, iv 0, .val .null, u_] [(.ref bb), (.ref a1)])) rfl rfl (hb hby own_dsi4_0_14)
    have Fw7 := Fld.same W7 f5
    have f8 := Exa.wr W7 f3
    have f9 := Fld.other W7 f4 (Or.inr (slot_ne (Or.inr (own_h hw 31 rfl)) (Or.inr (own_h hw 33 rfl)) (by decide) (t := .byte) (t' := (.array .byte)) (by decide) (by decide)))
    have f10 := Exa.wr W7 Ex
    have f11 := Fld.other W7 Fc (Or.inl (Ne.symm ne1))
    have f12 := Fld.other W7 Fv (Or.inl (Ne.symm ne1))
    have f13 := Av.other W7 (Ne.symm ne2)
    have K7 : Keep h0 h7 [a1] := K2.wr W7 (Or.inl (List.mem_of_getElem? (i := 0) rfl))
    have Z7 := Nat.le_trans Z2 (Nat.le_of_eq W7.size.symm)
    have hk7 := Nat.le_trans hk2 (Nat.le_of_eq W7.size.symm)
    have N7 := Fr.snoc X7 N0 g_a1
    refine own_s T7 (mkF m 17 #[rv a1, rv a2, iv 0, iv 0, .val .null, u_] []) st7 ?_
    refine own_s T7 (mkF m 18 #[rv a1, rv a2, iv 0, iv 0, .val .null, u_] [(.ref a1)]) (fun _ k => XS.aloadN X7.here hx rfl (hb hby own_dsi4_0_17) rfl rfl k) ?_
    refine own_s T7 (mkF m 20 #[rv a1, rv a2, iv 0, iv 0, .val .null, u_] [(.ref sl), (.ref a1)]) (ldcAgain X7 hx hZ hown (own_h hw 102 rfl) hL (g := (mkF m 18 #[rv a1, rv a2, iv 0, iv 0, .val .null, u_] [(.ref a1)])) rfl (hb hby own_dsi4_0_18)) ?_
    obtain ⟨T14, X14, e14, st14⟩ := getF X7 hx hZ hown (host := "") (Or.inl (own_h hw 30 rfl)) Via.refl e7 f11 (g := (mkF m 20 #[rv a1, rv a2, iv 0, iv 0, .val .null, u_] [(.ref sl), (.ref a1)])) rfl rfl (hb hby own_dsi4_0_20)
    refine own_s T14 (mkF m 23 #[rv a1, rv a2, iv 0, iv 0, .val .null, u_] [(.int 0), (.ref a1)]) st14 ?_
    obtain ⟨T15, h15, X15, e15, W15, st15⟩ := putFN X14 hx hZ hown (own_h hw 30 rfl) Via.refl e14 f9 f8 (Or.inr ⟨(own_h hw 31 rfl), rfl, hnm⟩) (own_h hw 5 rfl) (ty := .byte) (v' := (.int 0)) (by decide) rfl rfl (g := (mkF m 23 #[rv a1, rv a2, iv 0, iv 0, .val .null, u_] [(.int 0), (.ref a1)])) rfl rfl (hb hby own_dsi4_0_23)
    have Fw15 := Fld.same W15 f9
    have f16 := Exa.wr W15 f8
    have f17 := Fld.other W15 Fw7 (Or.inr (slot_ne (Or.inr (own_h hw 33 rfl)) (Or.inr (own_h hw 31 rfl)) (by decide) (t := (.array .byte)) (t' := .byte) (by decide) (by decide)))
    have f18 := Exa.wr W15 f10
    have f19 := Fld.other W15 f11 (Or.inl (Ne.symm ne1))
    have f20 := Fld.other W15 f12 (Or.inl (Ne.symm ne1))
    have f21 := f13.other W15 (Ne.symm ne2)
    have K15 : Keep h0 h15 [a1] := K7.wr W15 (Or.inl (List.mem_of_getElem? (i := 0) rfl))
    have Z15 := Nat.le_trans Z7 (Nat.le_of_eq W15.size.symm)
    have hk15 := Nat.le_trans hk7 (Nat.le_of_eq W15.size.symm)
    have N15 := Fr.snoc X15 N7 g_a1
    refine own_s T15 (mkF m 26 #[rv a1, rv a2, iv 0, iv 0, .val .null, u_] []) st15 ?_
    exact own_finV X15 hx hret (hb hby own_dsi4_0_26) (own_endW (Qv := (own_Qsi4_0 Z a1 a2 h0 n0)) X15 hS (fun _ => rfl) hlk (by decide) (by decide) e15 hk15 (fun vm' hv' => ⟨rfl, N15, K15, f16, Fw15, ⟨bb, kbb, f17, f21⟩, Or.inr ⟨sl, bb, kbb, own_litAll (own_litW hL hv'), f18, f19, f20, f21⟩⟩))
  · have ne1 : a1 ≠ sl := Fld.ne W1 Fv (by simp)
    have ne2 : a1 ≠ bb := Exa.neArv E1 Av (own_h hw 5 rfl)
    refine own_s T1 (mkF m 11 #[rv a1, rv a2, iv 0, iv 0, .val .null, u_] [(.ref sl), (.ref a1)]) (ldcAgain X1 hx hZ hown (own_h hw 102 rfl) (hL s) (g := (mkF m 9 #[rv a1, rv a2, iv 0, iv 0, .val .null, u_] [(.ref a1)])) rfl (hb hby own_dsi4_0_9)) ?_
    obtain ⟨T22, X22, e22, st22⟩ := getF X1 hx hZ hown (host := "") (Or.inl (own_h hw 32 rfl)) Via.refl e1 Fv (g := (mkF m 11 #[rv a1, rv a2, iv 0, iv 0, .val .null, u_] [(.ref sl), (.ref a1)])) rfl rfl (hb hby own_dsi4_0_11)
    refine own_s T22 (mkF m 14 #[rv a1, rv a2, iv 0, iv 0, .val .null, u_] [(.ref bb), (.ref a1)]) st22 ?_
    obtain ⟨T23, h23, X23, e23, W23, st23⟩ := putF X22 hx hZ hown (host := "") (Or.inl (own_h hw 32 rfl)) Via.refl e22 W1 E1 (Or.inr ⟨(own_h hw 33 rfl), rfl, hnm⟩) (own_h hw 5 rfl) (ty := (.array .byte)) (by decide) rfl rfl (g := (mkF m 14 #[rv a1, rv a2, iv 0, iv 0, .val .null, u_] [(.ref bb), (.ref a1)])) rfl rfl (hb hby own_dsi4_0_14)
    have Fw23 := Fld.same W23 W1
    have f24 := Exa.wr W23 E1
    have f25 := Fld.other W23 C1 (Or.inr (slot_ne (Or.inr (own_h hw 31 rfl)) (Or.inr (own_h hw 33 rfl)) (by decide) (t := .byte) (t' := (.array .byte)) (by decide) (by decide)))
    have f26 := Exa.wr W23 Ex
    have f27 := Fld.other W23 Fc (Or.inl (Ne.symm ne1))
    have f28 := Fld.other W23 Fv (Or.inl (Ne.symm ne1))
    have f29 := Av.other W23 (Ne.symm ne2)
    have K23 : Keep h0 h23 [a1] := (Keep.refl h0 [a1]).wr W23 (Or.inl (List.mem_of_getElem? (i := 0) rfl))
    have Z23 := Nat.le_trans Z0 (Nat.le_of_eq W23.size.symm)
    have hk23 := Nat.le_trans hk0 (Nat.le_of_eq W23.size.symm)
    have N23 := Fr.snoc X23 N0 g_a1
    refine own_s T23 (mkF m 17 #[rv a1, rv a2, iv 0, iv 0, .val .null, u_] []) st23 ?_
    refine own_s T23 (mkF m 18 #[rv a1, rv a2, iv 0, iv 0, .val .null, u_] [(.ref a1)]) (fun _ k => XS.aloadN X23.here hx rfl (hb hby own_dsi4_0_17) rfl rfl k) ?_
    refine own_s T23 (mkF m 20 #[rv a1, rv a2, iv 0, iv 0, .val .null, u_] [(.ref sl), (.ref a1)]) (ldcAgain X23 hx hZ hown (own_h hw 102 rfl) (hL s) (g := (mkF m 18 #[rv a1, rv a2, iv 0, iv 0, .val .null, u_] [(.ref a1)])) rfl (hb hby own_dsi4_0_18)) ?_
    obtain ⟨T30, X30, e30, st30⟩ := getF X23 hx hZ hown (host := "") (Or.inl (own_h hw 30 rfl)) Via.refl e23 f27 (g := (mkF m 20 #[rv a1, rv a2, iv 0, iv 0, .val .null, u_] [(.ref sl), (.ref a1)])) rfl rfl (hb hby own_dsi4_0_20)
    refine own_s T30 (mkF m 23 #[rv a1, rv a2, iv 0, iv 0, .val .null, u_] [(.int 0), (.ref a1)]) st30 ?_
    obtain ⟨T31, h31, X31, e31, W31, st31⟩ := putFN X30 hx hZ hown (own_h hw 30 rfl) Via.refl e30 f25 f24 (Or.inr ⟨(own_h hw 31 rfl), rfl, hnm⟩) (own_h hw 5 rfl) (ty := .byte) (v' := (.int 0)) (by decide) rfl rfl (g := (mkF m 23 #[rv a1, rv a2, iv 0, iv 0, .val .null, u_] [(.int 0), (.ref a1)])) rfl rfl (hb hby own_dsi4_0_23)
    have Fw31 := Fld.same W31 f25
    have f32 := Exa.wr W31 f24
    have f33 := Fld.other W31 Fw23 (Or.inr (slot_ne (Or.inr (own_h hw 33 rfl)) (Or.inr (own_h hw 31 rfl)) (by decide) (t := (.array .byte)) (t' := .byte) (by decide) (by decide)))
    have f34 := Exa.wr W31 f26
    have f35 := Fld.other W31 f27 (Or.inl (Ne.symm ne1))
    have f36 := Fld.other W31 f28 (Or.inl (Ne.symm ne1))
    have f37 := f29.other W31 (Ne.symm ne2)
    have K31 : Keep h0 h31 [a1] := K23.wr W31 (Or.inl (List.mem_of_getElem? (i := 0) rfl))
    have Z31 := Nat.le_trans Z23 (Nat.le_of_eq W31.size.symm)
    have hk31 := Nat.le_trans hk23 (Nat.le_of_eq W31.size.symm)
    have N31 := Fr.snoc X31 N23 g_a1
    refine own_s T31 (mkF m 26 #[rv a1, rv a2, iv 0, iv 0, .val .null, u_] []) st31 ?_
    exact own_finV X31 hx hret (hb hby own_dsi4_0_26) (own_endW (Qv := (own_Qsi4_0 Z a1 a2 h0 n0)) X31 hS (fun _ => rfl) hlk (by decide) (by decide) e31 hk31 (fun vm' hv' => ⟨rfl, N31, K31, f32, Fw31, ⟨bb, kbb, f33, f37⟩, Or.inr ⟨sl, bb, kbb, own_litAll (own_litW (hL s) hv'), f34, f35, f36, f37⟩⟩))
theorem own_dsi1_0_0 : decode jdk_42_method_3_code 0 = .ok (.aload_n 0, 1) := by decide +kernel
theorem own_dsi1_0_1 : decode jdk_42_method_3_code 1 = .ok (.aload_n 1, 1) := by decide +kernel
theorem own_dsi1_0_2 : decode jdk_42_method_3_code 2 = .ok (.iconst 0, 1) := by decide +kernel
theorem own_dsi1_0_3 : decode jdk_42_method_3_code 3 = .ok (.aload_n 1, 1) := by decide +kernel
theorem own_dsi1_0_4 : decode jdk_42_method_3_code 4 = .ok (.arraylength, 1) := by decide +kernel
theorem own_dsi1_0_5 : decode jdk_42_method_3_code 5 = .ok (.aconst_null, 1) := by decide +kernel
theorem own_dsi1_0_6 : decode jdk_42_method_3_code 6 = .ok (.invokespecial 27, 3) := by decide +kernel
theorem own_dsi1_0_9 : decode jdk_42_method_3_code 9 = .ok (.return_, 1) := by decide +kernel
theorem own_efsi1_0 (m : MethodId) (x0 : Addr) (x1 : Addr) : entryFrame m #[(.ref x0), (.ref x1)] 2 = mkF m 0 #[rv x0, rv x1] [] := by first | (simp [entryFrame, mkF, argsToLocals, Value.category]; done) | rfl
def own_Qsi1_0 (Z : State) (a1 : Addr) (a2 : Addr) (kb : ClassId) (h0 : Heap) (n0 : Nat) : Option Value → Heap → Vm → List Loc → Prop := fun v h vm L => v = none ∧ Fr n0 L ∧ Keep h0 h [a1] ∧ Exa Z h a1 "java/lang/String" ∧ Fld Z h a1 "java/lang/String" "coder" "B" (.int 0) ∧ (∃ (b : Addr) (k : ClassId), Fld Z h a1 "java/lang/String" "value" "[B" (.ref b) ∧ Arv Z h b k .byte 0 [] (.int 0)) ∧ own_EL Z vm h
def own_Rsi1_0 : Room := { frames := 2, cells := 2, slots := 4, locals := 29 }
set_option maxRecDepth 65536 in
set_option maxHeartbeats 40000000 in
theorem own_rmsi1_0 (l : Launch) (Z : State) (a0 : Array Value) (hw : ∀ d ∈ tables_1, d.before a0 Z = true) (ws : List Jvm.Cond) (a1 : Addr) (a2 : Addr) (kb : ClassId) (h0 : Heap) (n0 : Nat) (Z0 : n0 ≤ h0.size) (g_a1 : n0 ≤ a1) (E1 : Exa Z h0 a1 "java/lang/String") (C1 : Fld Z h0 a1 "java/lang/String" "coder" "B" (.int 0)) (W1 : Fld Z h0 a1 "java/lang/String" "value" "[B" .null) (hO : Old Z n0 h0) (hh : Jvm.Lit.constHeld Z "java/lang/String" 7) (hcw : Jvm.Lit.compactW.before a0 Z = true) (V2 : Arv Z h0 a2 kb .char 0 [] (.int 0)) (hne : a2 ≠ a1) :
    own_MetW l Z own_y4 jdk_42_method_3_code 2 none ws own_Rsi1_0 h0 (fun vm => own_EL Z vm h0) #[(.ref a1), (.ref a2)] (own_Qsi1_0 Z a1 a2 kb h0 n0) own_Rsi1_0.cells own_Rsi1_0.slots := by
  refine own_startW (plainFor_of_name own_pn1) ?_
  intro p e s m below meth c s₁ X0 hx hZ hby hml hret hlk hown hnm e0 hS hs0 hJ
  have hk0 : 0 ≤ h0.size := Nat.zero_le _
  have hown : s.vm.findClass "java/lang/String" = some m.cls := hown
  have hml : c.maxLocals = 2 := hml
  have N0 := Fr.nil n0
  refine own_cast (own_efsi1_0 m a1 a2) ?_
  refine own_s s₁ (mkF m 4 #[rv a1, rv a2] [(.ref a2), (.int 0), (.ref a2), (.ref a1)]) (fun _ k => XS.aloadN X0.here hx rfl (hb hby own_dsi1_0_0) rfl rfl (XS.aloadN X0.here hx rfl (hb hby own_dsi1_0_1) rfl rfl (XS.iconst X0.here hx rfl (hb hby own_dsi1_0_2) (XS.aloadN X0.here hx rfl (hb hby own_dsi1_0_3) rfl rfl k)))) ?_
  obtain ⟨cl1, Ar1, q1, S1, Nn1, H1, G1⟩ := id V2
  refine own_s s₁ (mkF m 6 #[rv a1, rv a2] [.null, (.int 0), (.int 0), (.ref a2), (.ref a1)]) (fun _ k => own_len X0 hx hZ e0 Ar1 S1 Nn1 (g := (mkF m 4 #[rv a1, rv a2] [(.ref a2), (.int 0), (.ref a2), (.ref a1)])) rfl rfl (hb hby own_dsi1_0_4) (XS.aconstNull X0.here hx rfl (hb hby own_dsi1_0_5) k)) ?_
  obtain ⟨v2, T2, L2, X2, hQ2, hS, hg2, hZ, hown, st2⟩ := own_callIW (s := s) X0 hx hZ hS hk0 (y := own_y3) (W := 0) (a := a1) rfl hown (own_h hw 11 rfl) (own_h hw 12 rfl) (own_h hw 6 rfl) (own_h hw 14 rfl) (by decide) (own_rmsi4_0 l Z a0 hw [] a1 a2 h0 n0 Z0 g_a1 E1 C1 W1 hO hh hcw) (fun vm' hv => own_ELw hJ hv) (by decide) (by decide) (g := (mkF m 6 #[rv a1, rv a2] [.null, (.int 0), (.int 0), (.ref a2), (.ref a1)])) rfl (by rw [hml]; rfl) (argsL := [(.ref a2), (.int 0), (.int 0), .null]) (rest := []) rfl (lenOf own_pd3 rfl) rfl (by show 2 * 0 + _ ≤ _; exact Nat.le_of_eq rfl) (hb hby own_dsi1_0_6) e0 (by decide) (by decide)
  obtain ⟨rfl, Nq2, Kq2, Eq2, Cq2, ⟨b2, k2, Wq2, Vq2⟩, hJ⟩ := hQ2
  have N2 := Fr.app N0 Nq2
  have f3 := V2.keep Kq2 (ninS hne nin0)
  have f4 := Old.keep hO Kq2 (allS g_a1 all0)
  have K2 : Keep h0 T2.heap [a1] := (Keep.refl h0 [a1]).trans Kq2 (allS (Or.inl (List.mem_of_getElem? (i := 0) rfl)) all0)
  have Z2 := Nat.le_trans Z0 Kq2.1
  refine own_s T2 (mkF m 9 #[rv a1, rv a2] []) st2 ?_
  exact own_finV X2 hx hret (hb hby own_dsi1_0_9) (own_endW (Qv := (own_Qsi1_0 Z a1 a2 kb h0 n0)) X2 hS (fun _ => rfl) hlk (by decide) (by decide) rfl (Nat.le_refl _) (fun vm' hv' => ⟨rfl, N2, K2, Eq2, Cq2, ⟨_, _, Wq2, Vq2⟩, own_ELw hJ hv'⟩))
theorem own_pd4 : parseMethodDescriptor "([C)V" = some ⟨[(.array .char)], none⟩ := by decide +kernel
abbrev own_y5 : MethodName := ⟨"com/example/tidewire/tidewire/rpc/ProviderAddressOfPinLaw", "host", "(IIII)Ljava/lang/String;"⟩
theorem own_pn2 : plainName "com/example/tidewire/tidewire/rpc/ProviderAddressOfPinLaw" = true := by first | (simp [plainName, overriddenIn]; done) | decide +kernel
theorem own_dhst_0 : decode method_2_code 0 = .ok (.iload_n 0, 1) := by decide +kernel
theorem own_dhst_1 : decode method_2_code 1 = .ok (.sipush 255, 3) := by decide +kernel
theorem own_dhst_4 : decode method_2_code 4 = .ok (.iand, 1) := by decide +kernel
theorem own_dhst_5 : decode method_2_code 5 = .ok (.i2c, 1) := by decide +kernel
theorem own_dhst_6 : decode method_2_code 6 = .ok (.istore 4, 2) := by decide +kernel
theorem own_dhst_8 : decode method_2_code 8 = .ok (.iload_n 1, 1) := by decide +kernel
theorem own_dhst_9 : decode method_2_code 9 = .ok (.sipush 255, 3) := by decide +kernel
theorem own_dhst_12 : decode method_2_code 12 = .ok (.iand, 1) := by decide +kernel
theorem own_dhst_13 : decode method_2_code 13 = .ok (.i2c, 1) := by decide +kernel
theorem own_dhst_14 : decode method_2_code 14 = .ok (.istore 5, 2) := by decide +kernel
theorem own_dhst_16 : decode method_2_code 16 = .ok (.iload_n 2, 1) := by decide +kernel
theorem own_dhst_17 : decode method_2_code 17 = .ok (.sipush 255, 3) := by decide +kernel
theorem own_dhst_20 : decode method_2_code 20 = .ok (.iand, 1) := by decide +kernel
theorem own_dhst_21 : decode method_2_code 21 = .ok (.i2c, 1) := by decide +kernel
theorem own_dhst_22 : decode method_2_code 22 = .ok (.istore 6, 2) := by decide +kernel
theorem own_dhst_24 : decode method_2_code 24 = .ok (.iload_n 3, 1) := by decide +kernel
theorem own_dhst_25 : decode method_2_code 25 = .ok (.iconst 3, 1) := by decide +kernel
theorem own_dhst_26 : decode method_2_code 26 = .ok (.iand, 1) := by decide +kernel
theorem own_dhst_27 : decode method_2_code 27 = .ok (.istore 7, 2) := by decide +kernel
theorem own_dhst_29 : decode method_2_code 29 = .ok (.iload 7, 2) := by decide +kernel
theorem own_dhst_31 : decode method_2_code 31 = .ok (.ifCond .ne 14, 3) := by decide +kernel
theorem own_dhst_34 : decode method_2_code 34 = .ok (.new 7, 3) := by decide +kernel
theorem own_dhst_37 : decode method_2_code 37 = .ok (.dup, 1) := by decide +kernel
theorem own_dhst_38 : decode method_2_code 38 = .ok (.iconst 0, 1) := by decide +kernel
theorem own_dhst_39 : decode method_2_code 39 = .ok (.newarray .char, 2) := by decide +kernel
theorem own_dhst_41 : decode method_2_code 41 = .ok (.invokespecial 9, 3) := by decide +kernel
theorem own_dhst_44 : decode method_2_code 44 = .ok (.areturn, 1) := by decide +kernel
theorem own_dhst_45 : decode method_2_code 45 = .ok (.iload 7, 2) := by decide +kernel
theorem own_dhst_47 : decode method_2_code 47 = .ok (.iconst 1, 1) := by decide +kernel
theorem own_dhst_48 : decode method_2_code 48 = .ok (.if_icmp .ne 19, 3) := by decide +kernel
theorem own_dhst_51 : decode method_2_code 51 = .ok (.new 7, 3) := by decide +kernel
theorem own_dhst_54 : decode method_2_code 54 = .ok (.dup, 1) := by decide +kernel
theorem own_dhst_55 : decode method_2_code 55 = .ok (.iconst 1, 1) := by decide +kernel
theorem own_dhst_56 : decode method_2_code 56 = .ok (.newarray .char, 2) := by decide +kernel
theorem own_dhst_58 : decode method_2_code 58 = .ok (.dup, 1) := by decide +kernel
theorem own_dhst_59 : decode method_2_code 59 = .ok (.iconst 0, 1) := by decide +kernel
theorem own_dhst_60 : decode method_2_code 60 = .ok (.iload 4, 2) := by decide +kernel
theorem own_dhst_62 : decode method_2_code 62 = .ok (.castore, 1) := by decide +kernel
theorem own_dhst_63 : decode method_2_code 63 = .ok (.invokespecial 9, 3) := by decide +kernel
theorem own_dhst_66 : decode method_2_code 66 = .ok (.areturn, 1) := by decide +kernel
theorem own_dhst_67 : decode method_2_code 67 = .ok (.iload 7, 2) := by decide +kernel
theorem own_dhst_69 : decode method_2_code 69 = .ok (.iconst 2, 1) := by decide +kernel
theorem own_dhst_70 : decode method_2_code 70 = .ok (.if_icmp .ne 24, 3) := by decide +kernel
theorem own_dhst_73 : decode method_2_code 73 = .ok (.new 7, 3) := by decide +kernel
theorem own_dhst_76 : decode method_2_code 76 = .ok (.dup, 1) := by decide +kernel
theorem own_dhst_77 : decode method_2_code 77 = .ok (.iconst 2, 1) := by decide +kernel
theorem own_dhst_78 : decode method_2_code 78 = .ok (.newarray .char, 2) := by decide +kernel
theorem own_dhst_80 : decode method_2_code 80 = .ok (.dup, 1) := by decide +kernel
theorem own_dhst_81 : decode method_2_code 81 = .ok (.iconst 0, 1) := by decide +kernel
theorem own_dhst_82 : decode method_2_code 82 = .ok (.iload 4, 2) := by decide +kernel
theorem own_dhst_84 : decode method_2_code 84 = .ok (.castore, 1) := by decide +kernel
theorem own_dhst_85 : decode method_2_code 85 = .ok (.dup, 1) := by decide +kernel
theorem own_dhst_86 : decode method_2_code 86 = .ok (.iconst 1, 1) := by decide +kernel
theorem own_dhst_87 : decode method_2_code 87 = .ok (.iload 5, 2) := by decide +kernel
theorem own_dhst_89 : decode method_2_code 89 = .ok (.castore, 1) := by decide +kernel
theorem own_dhst_90 : decode method_2_code 90 = .ok (.invokespecial 9, 3) := by decide +kernel
theorem own_dhst_93 : decode method_2_code 93 = .ok (.areturn, 1) := by decide +kernel
theorem own_dhst_94 : decode method_2_code 94 = .ok (.new 7, 3) := by decide +kernel
theorem own_dhst_97 : decode method_2_code 97 = .ok (.dup, 1) := by decide +kernel
theorem own_dhst_98 : decode method_2_code 98 = .ok (.iconst 3, 1) := by decide +kernel
theorem own_dhst_99 : decode method_2_code 99 = .ok (.newarray .char, 2) := by decide +kernel
theorem own_dhst_101 : decode method_2_code 101 = .ok (.dup, 1) := by decide +kernel
theorem own_dhst_102 : decode method_2_code 102 = .ok (.iconst 0, 1) := by decide +kernel
theorem own_dhst_103 : decode method_2_code 103 = .ok (.iload 4, 2) := by decide +kernel
theorem own_dhst_105 : decode method_2_code 105 = .ok (.castore, 1) := by decide +kernel
theorem own_dhst_106 : decode method_2_code 106 = .ok (.dup, 1) := by decide +kernel
theorem own_dhst_107 : decode method_2_code 107 = .ok (.iconst 1, 1) := by decide +kernel
theorem own_dhst_108 : decode method_2_code 108 = .ok (.iload 5, 2) := by decide +kernel
theorem own_dhst_110 : decode method_2_code 110 = .ok (.castore, 1) := by decide +kernel
theorem own_dhst_111 : decode method_2_code 111 = .ok (.dup, 1) := by decide +kernel
theorem own_dhst_112 : decode method_2_code 112 = .ok (.iconst 2, 1) := by decide +kernel
theorem own_dhst_113 : decode method_2_code 113 = .ok (.iload 6, 2) := by decide +kernel
theorem own_dhst_115 : decode method_2_code 115 = .ok (.castore, 1) := by decide +kernel
theorem own_dhst_116 : decode method_2_code 116 = .ok (.invokespecial 9, 3) := by decide +kernel
theorem own_dhst_119 : decode method_2_code 119 = .ok (.areturn, 1) := by decide +kernel
theorem own_efhst (m : MethodId) (x0 : Int32) (x1 : Int32) (x2 : Int32) (x3 : Int32) : entryFrame m #[(.int x0), (.int x1), (.int x2), (.int x3)] 8 = mkF m 0 #[iv x0, iv x1, iv x2, iv x3, u_, u_, u_, u_] [] := by first | (simp [entryFrame, mkF, argsToLocals, Value.category]; done) | rfl
def own_Qhst (Z : State) (p1 : Int32) (p2 : Int32) (p3 : Int32) (p4 : Int32) (gC : Int32) (h0 : Heap) (n0 : Nat) : Option Value → Heap → Vm → List Loc → Prop := fun v h vm L => (∃ a, v = some (.ref a) ∧ n0 ≤ a ∧ Exa Z h a "java/lang/String") ∧ Fr n0 L ∧ Keep h0 h [] ∧ own_EL Z vm h
def own_Rhst : Room := { frames := 4, cells := 4, slots := 10, locals := 66 }
set_option maxRecDepth 65536 in
set_option maxHeartbeats 40000000 in
theorem own_rmhst (l : Launch) (Z : State) (a0 : Array Value) (hw : ∀ d ∈ tables_1, d.before a0 Z = true) (ws : List Jvm.Cond) (p1 : Int32) (p2 : Int32) (p3 : Int32) (p4 : Int32) (gC : Int32) (h0 : Heap) (n0 : Nat) (Z0 : n0 ≤ h0.size) (SC : Sta Z h0 "java/lang/String" "COMPACT_STRINGS" "Z" (.int gC)) (hG : ¬ gC = (0 : Int32)) (hO : Old Z n0 h0) (hh : Jvm.Lit.constHeld Z "java/lang/String" 7) (hcw : Jvm.Lit.compactW.before a0 Z = true) :
    own_MetW l Z own_y5 method_2_code 8 (some (.object "java/lang/String")) ws own_Rhst h0 (fun vm => own_EL Z vm h0) #[(.int p1), (.int p2), (.int p3), (.int p4)] (own_Qhst Z p1 p2 p3 p4 gC h0 n0) own_Rhst.cells own_Rhst.slots := by
  refine own_startW (plainFor_of_name own_pn2) ?_
  intro p e s m below meth c s₁ X0 hx hZ hby hml hret hlk hown hnm e0 hS hs0 hJ
  have hk0 : 0 ≤ h0.size := Nat.zero_le _
  have hown : s.vm.findClass "com/example/tidewire/tidewire/rpc/ProviderAddressOfPinLaw" = some m.cls := hown
  have hml : c.maxLocals = 8 := hml
  have N0 := Fr.nil n0
  refine own_cast (own_efhst m p1 p2 p3 p4) ?_
  refine own_s s₁ (mkF m 8 #[iv p1, iv p2, iv p3, iv p4, iv ((p1 &&& (255 : Int32)).toUInt32.toUInt16.toUInt32.toInt32), u_, u_, u_] []) (fun _ k => XS.iloadN X0.here hx rfl (hb hby own_dhst_0) rfl  (XS.sipush X0.here hx rfl (hb hby own_dhst_1) (XS.iand X0.here hx rfl (hb hby own_dhst_4) rfl (XS.i2c X0.here hx rfl (hb hby own_dhst_5) rfl (XS.istore X0.here hx rfl (hb hby own_dhst_6) rfl (l' := #[iv p1, iv p2, iv p3, iv p4, iv ((p1 &&& (255 : Int32)).toUInt32.toUInt16.toUInt32.toInt32), u_, u_, u_]) rfl k))))) ?_
  refine own_s s₁ (mkF m 16 #[iv p1, iv p2, iv p3, iv p4, iv ((p1 &&& (255 : Int32)).toUInt32.toUInt16.toUInt32.toInt32), iv ((p2 &&& (255 : Int32)).toUInt32.toUInt16.toUInt32.toInt32), u_, u_] []) (fun _ k => XS.iloadN X0.here hx rfl (hb hby own_dhst_8) rfl  (XS.sipush X0.here hx rfl (hb hby own_dhst_9) (XS.iand X0.here hx rfl (hb hby own_dhst_12) rfl (XS.i2c X0.here hx rfl (hb hby own_dhst_13) rfl (XS.istore X0.here hx rfl (hb hby own_dhst_14) rfl (l' := #[iv p1, iv p2, iv p3, iv p4, iv ((p1 &&& (255 : Int32)).toUInt32.toUInt16.toUInt32.toInt32), iv ((p2 &&& (255 : Int32)).toUInt32.toUInt16.toUInt32.toInt32), u_, u_]) rfl k))))) ?_
  refine own_s s₁ (mkF m 24 #[iv p1, iv p2, iv p3, iv p4, iv ((p1 &&& (255 : Int32)).toUInt32.toUInt16.toUInt32.toInt32), iv ((p2 &&& (255 : Int32)).toUInt32.toUInt16.toUInt32.toInt32), iv ((p3 &&& (255 : Int32)).toUInt32.toUInt16.toUInt32.toInt32), u_] []) (fun _ k => XS.iloadN X0.here hx rfl (hb hby own_dhst_16) rfl  (XS.sipush X0.here hx rfl (hb hby own_dhst_17) (XS.iand X0.here hx rfl (hb hby own_dhst_20) rfl (XS.i2c X0.here hx rfl (hb hby own_dhst_21) rfl (XS.istore X0.here hx rfl (hb hby own_dhst_22) rfl (l' := #[iv p1, iv p2, iv p3, iv p4, iv ((p1 &&& (255 : Int32)).toUInt32.toUInt16.toUInt32.toInt32), iv ((p2 &&& (255 : Int32)).toUInt32.toUInt16.toUInt32.toInt32), iv ((p3 &&& (255 : Int32)).toUInt32.toUInt16.toUInt32.toInt32), u_]) rfl k))))) ?_
  refine own_s s₁ (mkF m 31 #[iv p1, iv p2, iv p3, iv p4, iv ((p1 &&& (255 : Int32)).toUInt32.toUInt16.toUInt32.toInt32), iv ((p2 &&& (255 : Int32)).toUInt32.toUInt16.toUInt32.toInt32), iv ((p3 &&& (255 : Int32)).toUInt32.toUInt16.toUInt32.toInt32), iv (p4 &&& (3 : Int32))] [(.int (p4 &&& (3 : Int32)))]) (fun _ k => XS.iloadN X0.here hx rfl (hb hby own_dhst_24) rfl  (XS.iconst X0.here hx rfl (hb hby own_dhst_25) (XS.iand X0.here hx rfl (hb hby own_dhst_26) rfl (XS.istore X0.here hx rfl (hb hby own_dhst_27) rfl (l' := #[iv p1, iv p2, iv p3, iv p4, iv ((p1 &&& (255 : Int32)).toUInt32.toUInt16.toUInt32.toInt32), iv ((p2 &&& (255 : Int32)).toUInt32.toUInt16.toUInt32.toInt32), iv ((p3 &&& (255 : Int32)).toUInt32.toUInt16.toUInt32.toInt32), iv (p4 &&& (3 : Int32))]) rfl (XS.iload X0.here hx rfl (hb hby own_dhst_29) rfl  k))))) ?_
  by_cases c31 : (p4 &&& (3 : Int32)) = (0 : Int32)
  · refine own_s s₁ (mkF m 34 #[iv p1, iv p2, iv p3, iv p4, iv ((p1 &&& (255 : Int32)).toUInt32.toUInt16.toUInt32.toInt32), iv ((p2 &&& (255 : Int32)).toUInt32.toUInt16.toUInt32.toInt32), iv ((p3 &&& (255 : Int32)).toUInt32.toUInt16.toUInt32.toInt32), iv (p4 &&& (3 : Int32))] []) (fun _ k => XS.ifNo X0.here hx rfl (hb hby own_dhst_31) rfl ((if0 _ _).trans (teq c31).2) k) ?_
    obtain ⟨T1, h1, X1, e1, E1, A1, D1, -, st1⟩ := newO X0 hx hZ hown (own_h hw 4 rfl) (own_h hw 5 rfl) (own_h hw 6 rfl) e0 (g := (mkF m 34 #[iv p1, iv p2, iv p3, iv p4, iv ((p1 &&& (255 : Int32)).toUInt32.toUInt16.toUInt32.toInt32), iv ((p2 &&& (255 : Int32)).toUInt32.toUInt16.toUInt32.toInt32), iv ((p3 &&& (255 : Int32)).toUInt32.toUInt16.toUInt32.toInt32), iv (p4 &&& (3 : Int32))] [])) rfl (hb hby own_dhst_34) (by decide) (by decide)
    obtain ⟨b1, g1⟩ : ∃ z, z = h0.size := ⟨_, rfl⟩
    have g_b1 : n0 ≤ b1 := Nat.le_trans Z0 (Nat.le_of_eq g1.symm)
    have sz_b1 : h0.size ≤ b1 := Nat.le_trans (Keep.refl h0 []).1 (Nat.le_of_eq g1.symm)
    rw [← g1] at A1 D1 st1
    have f2 := Sta.ext E1 SC
    have f3 := Old.ext hO E1
    have K1 : Keep h0 h1 [] := (Keep.refl h0 []).ext E1
    have Z1 := Nat.le_trans Z0 E1.1
    have hk1 := Nat.le_trans hk0 E1.1
    have f4 : Fld Z h1 b1 "java/lang/String" "coder" "B" (.int 0) := D1 (Or.inr (own_h hw 31 rfl)) (ty := .byte) (by decide)
    have f5 : Fld Z h1 b1 "java/lang/String" "value" "[B" .null := D1 (Or.inr (own_h hw 33 rfl)) (ty := (.array .byte)) (by decide)
    refine own_s T1 (mkF m 37 #[iv p1, iv p2, iv p3, iv p4, iv ((p1 &&& (255 : Int32)).toUInt32.toUInt16.toUInt32.toInt32), iv ((p2 &&& (255 : Int32)).toUInt32.toUInt16.toUInt32.toInt32), iv ((p3 &&& (255 : Int32)).toUInt32.toUInt16.toUInt32.toInt32), iv (p4 &&& (3 : Int32))] [(.ref b1)]) st1 ?_
    refine own_s T1 (mkF m 39 #[iv p1, iv p2, iv p3, iv p4, iv ((p1 &&& (255 : Int32)).toUInt32.toUInt16.toUInt32.toInt32), iv ((p2 &&& (255 : Int32)).toUInt32.toUInt16.toUInt32.toInt32), iv ((p3 &&& (255 : Int32)).toUInt32.toUInt16.toUInt32.toInt32), iv (p4 &&& (3 : Int32))] [(.int 0), (.ref b1), (.ref b1)]) (fun _ k => XS.dup X1.here hx rfl (hb hby own_dhst_37) rfl rfl (XS.iconst X1.here hx rfl (hb hby own_dhst_38) k)) ?_
    obtain ⟨T6, h6, k6, X6, e6, E6, A6, st6⟩ := newP X1 hx hZ (own_h hw 7 rfl) e1 (g := (mkF m 39 #[iv p1, iv p2, iv p3, iv p4, iv ((p1 &&& (255 : Int32)).toUInt32.toUInt16.toUInt32.toInt32), iv ((p2 &&& (255 : Int32)).toUInt32.toUInt16.toUInt32.toInt32), iv ((p3 &&& (255 : Int32)).toUInt32.toUInt16.toUInt32.toInt32), iv (p4 &&& (3 : Int32))] [(.int 0), (.ref b1), (.ref b1)])) rfl (hb hby own_dhst_39) rfl (by decide) (cap := 0) (by decide) (by decide) (by decide) (by decide)
    obtain ⟨b6, g6⟩ : ∃ z, z = h1.size := ⟨_, rfl⟩
    have ne_b1_b6 : b1 ≠ b6 := Nat.ne_of_lt (Nat.lt_of_lt_of_le A1.lt (Nat.le_of_eq g6.symm))
    have g_b6 : n0 ≤ b6 := Nat.le_trans Z1 (Nat.le_of_eq g6.symm)
    have sz_b6 : h0.size ≤ b6 := Nat.le_trans K1.1 (Nat.le_of_eq g6.symm)
    rw [← g6] at A6 st6
    have f7 := Sta.ext E6 f2
    have f8 := Old.ext f3 E6
    have f9 := Exa.ext E6 A1
    have f10 := Fld.ext E6 f4
    have f11 := Fld.ext E6 f5
    have K6 : Keep h0 h6 [] := K1.ext E6
    have Z6 := Nat.le_trans Z1 E6.1
    have hk6 := Nat.le_trans hk1 E6.1
    have f6 : Arv Z h6 b6 k6 .char 0 [] (.int 0) := (Arv.new A6 (by decide)).pad (pad_rep [] (.int 0) 0)
    refine own_s T6 (mkF m 41 #[iv p1, iv p2, iv p3, iv p4, iv ((p1 &&& (255 : Int32)).toUInt32.toUInt16.toUInt32.toInt32), iv ((p2 &&& (255 : Int32)).toUInt32.toUInt16.toUInt32.toInt32), iv ((p3 &&& (255 : Int32)).toUInt32.toUInt16.toUInt32.toInt32), iv (p4 &&& (3 : Int32))] [(.ref b6), (.ref b1), (.ref b1)]) st6 ?_
    obtain ⟨v12, T12, L12, X12, hQ12, hS, hg12, hZ, hown, st12⟩ := own_callIW (s := s) X6 hx hZ hS hk6 (y := own_y4) (W := 1) (a := b1) rfl hown (own_h hw 8 rfl) (own_h hw 9 rfl) (own_h hw 6 rfl) (own_h hw 10 rfl) (by decide) (own_rmsi1_0 l Z a0 hw [] b1 b6 k6 h6 n0 Z6 g_b1 f9 f10 f11 f8 hh hcw f6 (Ne.symm ne_b1_b6)) (fun vm' hv => own_ELw (own_ELk hJ K6) hv) (by decide) (by decide) (g := (mkF m 41 #[iv p1, iv p2, iv p3, iv p4, iv ((p1 &&& (255 : Int32)).toUInt32.toUInt16.toUInt32.toInt32), iv ((p2 &&& (255 : Int32)).toUInt32.toUInt16.toUInt32.toInt32), iv ((p3 &&& (255 : Int32)).toUInt32.toUInt16.toUInt32.toInt32), iv (p4 &&& (3 : Int32))] [(.ref b6), (.ref b1), (.ref b1)])) rfl (by rw [hml]; rfl) (argsL := [(.ref b6)]) (rest := [(.ref b1)]) rfl (lenOf own_pd4 rfl) rfl (by show 2 * 0 + _ ≤ _; exact Nat.le_of_eq rfl) (hb hby own_dhst_41) e6 (by decide) (by decide)
    obtain ⟨rfl, Nq12, Kq12, Eq12, Cq12, ⟨b12, k12, Wq12, Vq12⟩, hJ⟩ := hQ12
    have N12 := Fr.app N0 Nq12
    have f13 := own_staKeepW f7 Kq12 (allS f9.nostat all0)
    have f14 := Old.keep f8 Kq12 (allS g_b1 all0)
    have f15 := f6.keep Kq12 (ninS (Ne.symm ne_b1_b6) nin0)
    have K12 : Keep h0 T12.heap [] := K6.trans Kq12 (allS (Or.inr sz_b1) all0)
    have Z12 := Nat.le_trans Z6 Kq12.1
    refine own_s T12 (mkF m 44 #[iv p1, iv p2, iv p3, iv p4, iv ((p1 &&& (255 : Int32)).toUInt32.toUInt16.toUInt32.toInt32), iv ((p2 &&& (255 : Int32)).toUInt32.toUInt16.toUInt32.toInt32), iv ((p3 &&& (255 : Int32)).toUInt32.toUInt16.toUInt32.toInt32), iv (p4 &&& (3 : Int32))] [(.ref b1)]) st12 ?_
    exact own_finA X12 hx hret rfl rfl (hb hby own_dhst_44) (own_endW (Qv := (own_Qhst Z p1 p2 p3 p4 gC h0 n0)) X12 hS (own_some hret) hlk (by decide) (by decide) rfl (Nat.le_refl _) (fun vm' hv' => ⟨⟨b1, rfl, g_b1, Eq12⟩, N12, K12, own_ELw hJ hv'⟩))
  · refine own_s s₁ (mkF m 48 #[iv p1, iv p2, iv p3, iv p4, iv ((p1 &&& (255 : Int32)).toUInt32.toUInt16.toUInt32.toInt32), iv ((p2 &&& (255 : Int32)).toUInt32.toUInt16.toUInt32.toInt32), iv ((p3 &&& (255 : Int32)).toUInt32.toUInt16.toUInt32.toInt32), iv (p4 &&& (3 : Int32))] [(.int 1), (.int (p4 &&& (3 : Int32)))]) (fun _ k => XS.ifYes X0.here hx rfl (pc0 := 31) (pc' := 45) rfl (hb hby own_dhst_31) rfl ((if0 _ _).trans (feq c31).2) (by decide) (by decide) (XS.iload X0.here hx rfl (hb hby own_dhst_45) rfl  (XS.iconst X0.here hx rfl (hb hby own_dhst_47) k))) ?_
    by_cases c48 : (p4 &&& (3 : Int32)) = (1 : Int32)
    · refine own_s s₁ (mkF m 51 #[iv p1, iv p2, iv p3, iv p4, iv ((p1 &&& (255 : Int32)).toUInt32.toUInt16.toUInt32.toInt32), iv ((p2 &&& (255 : Int32)).toUInt32.toUInt16.toUInt32.toInt32), iv ((p3 &&& (255 : Int32)).toUInt32.toUInt16.toUInt32.toInt32), iv (p4 &&& (3 : Int32))] []) (fun _ k => XS.icmpNo X0.here hx rfl (hb hby own_dhst_48) rfl (teq c48).2 k) ?_
      obtain ⟨T16, h16, X16, e16, E16, A16, D16, -, st16⟩ := newO X0 hx hZ hown (own_h hw 4 rfl) (own_h hw 5 rfl) (own_h hw 6 rfl) e0 (g := (mkF m 51 #[iv p1, iv p2, iv p3, iv p4, iv ((p1 &&& (255 : Int32)).toUInt32.toUInt16.toUInt32.toInt32), iv ((p2 &&& (255 : Int32)).toUInt32.toUInt16.toUInt32.toInt32), iv ((p3 &&& (255 : Int32)).toUInt32.toUInt16.toUInt32.toInt32), iv (p4 &&& (3 : Int32))] [])) rfl (hb hby own_dhst_51) (by decide) (by decide)
      obtain ⟨b16, g16⟩ : ∃ z, z = h0.size := ⟨_, rfl⟩
      have g_b16 : n0 ≤ b16 := Nat.le_trans Z0 (Nat.le_of_eq g16.symm)
      have sz_b16 : h0.size ≤ b16 := Nat.le_trans (Keep.refl h0 []).1 (Nat.le_of_eq g16.symm)
      rw [← g16] at A16 D16 st16
      have f17 := Sta.ext E16 SC
      have f18 := Old.ext hO E16
      have K16 : Keep h0 h16 [] := (Keep.refl h0 []).ext E16
      have Z16 := Nat.le_trans Z0 E16.1
      have hk16 := Nat.le_trans hk0 E16.1
      have f19 : Fld Z h16 b16 "java/lang/String" "coder" "B" (.int 0) := D16 (Or.inr (own_h hw 31 rfl)) (ty := .byte) (by decide)
      have f20 : Fld Z h16 b16 "java/lang/String" "value" "[B" .null := D16 (Or.inr (own_h hw 33 rfl)) (ty := (.array .byte)) (by decide)
      refine own_s T16 (mkF m 54 #[iv p1, iv p2, iv p3, iv p4, iv ((p1 &&& (255 : Int32)).toUInt32.toUInt16.toUInt32.toInt32), iv ((p2 &&& (255 : Int32)).toUInt32.toUInt16.toUInt32.toInt32), iv ((p3 &&& (255 : Int32)).toUInt32.toUInt16.toUInt32.toInt32), iv (p4 &&& (3 : Int32))] [(.ref b16)]) st16 ?_
      refine own_s T16 (mkF m 56 #[iv p1, iv p2, iv p3, iv p4, iv ((p1 &&& (255 : Int32)).toUInt32.toUInt16.toUInt32.toInt32), iv ((p2 &&& (255 : Int32)).toUInt32.toUInt16.toUInt32.toInt32), iv ((p3 &&& (255 : Int32)).toUInt32.toUInt16.toUInt32.toInt32), iv (p4 &&& (3 : Int32))] [(.int 1), (.ref b16), (.ref b16)]) (fun _ k => XS.dup X16.here hx rfl (hb hby own_dhst_54) rfl rfl (XS.iconst X16.here hx rfl (hb hby own_dhst_55) k)) ?_
      obtain ⟨T21, h21, k21, X21, e21, E21, A21, st21⟩ := newP X16 hx hZ (own_h hw 7 rfl) e16 (g := (mkF m 56 #[iv p1, iv p2, iv p3, iv p4, iv ((p1 &&& (255 : Int32)).toUInt32.toUInt16.toUInt32.toInt32), iv ((p2 &&& (255 : Int32)).toUInt32.toUInt16.toUInt32.toInt32), iv ((p3 &&& (255 : Int32)).toUInt32.toUInt16.toUInt32.toInt32), iv (p4 &&& (3 : Int32))] [(.int 1), (.ref b16), (.ref b16)])) rfl (hb hby own_dhst_56) rfl (by decide) (cap := 1) (by decide) (by decide) (by decide) (by decide)
      obtain ⟨b21, g21⟩ : ∃ z, z = h16.size := ⟨_, rfl⟩
      have ne_b16_b21 : b16 ≠ b21 := Nat.ne_of_lt (Nat.lt_of_lt_of_le A16.lt (Nat.le_of_eq g21.symm))
      have g_b21 : n0 ≤ b21 := Nat.le_trans Z16 (Nat.le_of_eq g21.symm)
      have sz_b21 : h0.size ≤ b21 := Nat.le_trans K16.1 (Nat.le_of_eq g21.symm)
      rw [← g21] at A21 st21
      have f22 := Sta.ext E21 f17
      have f23 := Old.ext f18 E21
      have f24 := Exa.ext E21 A16
      have f25 := Fld.ext E21 f19
      have f26 := Fld.ext E21 f20
      have K21 : Keep h0 h21 [] := K16.ext E21
      have Z21 := Nat.le_trans Z16 E21.1
      have hk21 := Nat.le_trans hk16 E21.1
      have f21 : Arv Z h21 b21 k21 .char 1 [(.int 0)] (.int 0) := (Arv.new A21 (by decide)).pad (pad_rep [] (.int 0) 1)
      refine own_s T21 (mkF m 58 #[iv p1, iv p2, iv p3, iv p4, iv ((p1 &&& (255 : Int32)).toUInt32.toUInt16.toUInt32.toInt32), iv ((p2 &&& (255 : Int32)).toUInt32.toUInt16.toUInt32.toInt32), iv ((p3 &&& (255 : Int32)).toUInt32.toUInt16.toUInt32.toInt32), iv (p4 &&& (3 : Int32))] [(.ref b21), (.ref b16), (.ref b16)]) st21 ?_
      refine own_s T21 (mkF m 62 #[iv p1, iv p2, iv p3, iv p4, iv ((p1 &&& (255 : Int32)).toUInt32.toUInt16.toUInt32.toInt32), iv ((p2 &&& (255 : Int32)).toUInt32.toUInt16.toUInt32.toInt32), iv ((p3 &&& (255 : Int32)).toUInt32.toUInt16.toUInt32.toInt32), iv (p4 &&& (3 : Int32))] [(.int ((p1 &&& (255 : Int32)).toUInt32.toUInt16.toUInt32.toInt32)), (.int 0), (.ref b21), (.ref b21), (.ref b16), (.ref b16)]) (fun _ k => XS.dup X21.here hx rfl (hb hby own_dhst_58) rfl rfl (XS.iconst X21.here hx rfl (hb hby own_dhst_59) (XS.iload X21.here hx rfl (hb hby own_dhst_60) rfl  k))) ?_
      obtain ⟨cl27, Ar27, q27, S27, Nn27, H27, G27⟩ := id f21
      have hin27 : ¬ ((0 : Int32) < 0 ∨ cl27.slots.size ≤ ((0 : Int32)).toNatClampNeg) := (inb_of S27 ⟨by decide, by decide⟩)
      obtain ⟨T27, h27, X27, e27, W27, st27⟩ := stC X21 hx hZ e21 Ar27 (j := (0 : Int32)) hin27 (g := (mkF m 62 #[iv p1, iv p2, iv p3, iv p4, iv ((p1 &&& (255 : Int32)).toUInt32.toUInt16.toUInt32.toInt32), iv ((p2 &&& (255 : Int32)).toUInt32.toUInt16.toUInt32.toInt32), iv ((p3 &&& (255 : Int32)).toUInt32.toUInt16.toUInt32.toInt32), iv (p4 &&& (3 : Int32))] [(.int ((p1 &&& (255 : Int32)).toUInt32.toUInt16.toUInt32.toInt32)), (.int 0), (.ref b21), (.ref b21), (.ref b16), (.ref b16)])) rfl rfl (hb hby own_dhst_62)
      have f27 : Arv Z h27 b21 k21 .char (1 : Int32) [(.int (nar .char ((p1 &&& (255 : Int32)).toUInt32.toUInt16.toUInt32.toInt32)))] (.int 0) := Arv.set Ar27 q27 S27 Nn27 H27 G27 (fits_nar_char _) W27 0 rfl (Nat.le_of_ble_eq_true rfl)
      have f28 := Sta.wr W27 f22
      have f29 := Old.wr f23 W27 g_b21
      have f30 := Exa.wr W27 f24
      have f31 := Fld.other W27 f25 (Or.inl ne_b16_b21)
      have f32 := Fld.other W27 f26 (Or.inl ne_b16_b21)
      have K27 : Keep h0 h27 [] := K21.wr W27 (Or.inr sz_b21)
      have Z27 := Nat.le_trans Z21 (Nat.le_of_eq W27.size.symm)
      have hk27 := Nat.le_trans hk21 (Nat.le_of_eq W27.size.symm)
      have N27 := Fr.snoc X27 N0 g_b21
      refine own_s T27 (mkF m 63 #[iv p1, iv p2, iv p3, iv p4, iv ((p1 &&& (255 : Int32)).toUInt32.toUInt16.toUInt32.toInt32), iv ((p2 &&& (255 : Int32)).toUInt32.toUInt16.toUInt32.toInt32), iv ((p3 &&& (255 : Int32)).toUInt32.toUInt16.toUInt32.toInt32), iv (p4 &&& (3 : Int32))] [(.ref b21), (.ref b16), (.ref b16)]) st27 ?_
      obtain ⟨v33, T33, L33, X33, hQ33, st33⟩ := own_callI X27 hx hZ (y := own_y4) (W := 1) (a := b16) rfl hown (own_h hw 8 rfl) (own_h hw 9 rfl) (own_h hw 6 rfl) (own_h hw 10 rfl) (by decide) (own_rmsi1_1 l Z a0 hw [] b16 b21 k21 gC (nar .char ((p1 &&& (255 : Int32)).toUInt32.toUInt16.toUInt32.toInt32)) h27 n0 Z27 g_b16 f30 f31 f32 f27 (Ne.symm ne_b16_b21) f28 hG (own_c255 _)) (by decide) (by decide) (g := (mkF m 63 #[iv p1, iv p2, iv p3, iv p4, iv ((p1 &&& (255 : Int32)).toUInt32.toUInt16.toUInt32.toInt32), iv ((p2 &&& (255 : Int32)).toUInt32.toUInt16.toUInt32.toInt32), iv ((p3 &&& (255 : Int32)).toUInt32.toUInt16.toUInt32.toInt32), iv (p4 &&& (3 : Int32))] [(.ref b21), (.ref b16), (.ref b16)])) rfl (by rw [hml]; rfl) (argsL := [(.ref b21)]) (rest := [(.ref b16)]) rfl (lenOf own_pd4 rfl) rfl (by show 2 * 0 + _ ≤ _; exact Nat.le_of_eq rfl) (hb hby own_dhst_63) e27 (by decide) (by decide)
      obtain ⟨rfl, Nq33, Kq33, Eq33, Cq33, b33, k33, g_b33, sq33, Wq33, Vq33⟩ := hQ33
      have N33 := Fr.app N27 Nq33
      have ne_b16_b33 : b16 ≠ b33 := Nat.ne_of_lt (Nat.lt_of_lt_of_le f30.lt sq33)
      have ne_b21_b33 : b21 ≠ b33 := Nat.ne_of_lt (Nat.lt_of_lt_of_le f27.lt sq33)
      have sz_b33 : h0.size ≤ b33 := Nat.le_trans K27.1 sq33
      have f34 := own_staKeepW f28 Kq33 (allS f30.nostat all0)
      have f35 := Old.keep f29 Kq33 (allS g_b16 all0)
      have f36 := f27.keep Kq33 (ninS (Ne.symm ne_b16_b21) nin0)
      have K33 : Keep h0 T33.heap [] := K27.trans Kq33 (allS (Or.inr sz_b16) all0)
      have Z33 := Nat.le_trans Z27 Kq33.1
      have hk33 := Nat.le_trans hk27 Kq33.1
      refine own_s T33 (mkF m 66 #[iv p1, iv p2, iv p3, iv p4, iv ((p1 &&& (255 : Int32)).toUInt32.toUInt16.toUInt32.toInt32), iv ((p2 &&& (255 : Int32)).toUInt32.toUInt16.toUInt32.toInt32), iv ((p3 &&& (255 : Int32)).toUInt32.toUInt16.toUInt32.toInt32), iv (p4 &&& (3 : Int32))] [(.ref b16)]) st33 ?_
      exact own_finA X33 hx hret rfl rfl (hb hby own_dhst_66) (own_endW (Qv := (own_Qhst Z p1 p2 p3 p4 gC h0 n0)) X33 hS (own_some hret) hlk (by decide) (by decide) rfl hk33 (fun vm' hv' => ⟨⟨b16, rfl, g_b16, Eq33⟩, N33, K33, own_ELw (own_ELk hJ K33) hv'⟩))
    · refine own_s s₁ (mkF m 70 #[iv p1, iv p2, iv p3, iv p4, iv ((p1 &&& (255 : Int32)).toUInt32.toUInt16.toUInt32.toInt32), iv ((p2 &&& (255 : Int32)).toUInt32.toUInt16.toUInt32.toInt32), iv ((p3 &&& (255 : Int32)).toUInt32.toUInt16.toUInt32.toInt32), iv (p4 &&& (3 : Int32))] [(.int 2), (.int (p4 &&& (3 : Int32)))]) (fun _ k => XS.icmpYes X0.here hx rfl (pc0 := 48) (pc' := 67) rfl (hb hby own_dhst_48) rfl (feq c48).2 (by decide) (by decide) (XS.iload X0.here hx rfl (hb hby own_dhst_67) rfl  (XS.iconst X0.here hx rfl (hb hby own_dhst_69) k))) ?_
      by_cases c70 : (p4 &&& (3 : Int32)) = (2 : Int32)
      · refine own_s s₁ (mkF m 73 #[iv p1, iv p2, iv p3, iv p4, iv ((p1 &&& (255 : Int32)).toUInt32.toUInt16.toUInt32.toInt32), iv ((p2 &&& (255 : Int32)).toUInt32.toUInt16.toUInt32.toInt32), iv ((p3 &&& (255 : Int32)).toUInt32.toUInt16.toUInt32.toInt32), iv (p4 &&& (3 : Int32))] []) (fun _ k => XS.icmpNo X0.here hx rfl (hb hby own_dhst_70) rfl (teq c70).2 k) ?_
        obtain ⟨T37, h37, X37, e37, E37, A37, D37, -, st37⟩ := newO X0 hx hZ hown (own_h hw 4 rfl) (own_h hw 5 rfl) (own_h hw 6 rfl) e0 (g := (mkF m 73 #[iv p1, iv p2, iv p3, iv p4, iv ((p1 &&& (255 : Int32)).toUInt32.toUInt16.toUInt32.toInt32), iv ((p2 &&& (255 : Int32)).toUInt32.toUInt16.toUInt32.toInt32), iv ((p3 &&& (255 : Int32)).toUInt32.toUInt16.toUInt32.toInt32), iv (p4 &&& (3 : Int32))] [])) rfl (hb hby own_dhst_73) (by decide) (by decide)
        obtain ⟨b37, g37⟩ : ∃ z, z = h0.size := ⟨_, rfl⟩
        have g_b37 : n0 ≤ b37 := Nat.le_trans Z0 (Nat.le_of_eq g37.symm)
        have sz_b37 : h0.size ≤ b37 := Nat.le_trans (Keep.refl h0 []).1 (Nat.le_of_eq g37.symm)
        rw [← g37] at A37 D37 st37
        have f38 := Sta.ext E37 SC
        have f39 := Old.ext hO E37
        have K37 : Keep h0 h37 [] := (Keep.refl h0 []).ext E37
        have Z37 := Nat.le_trans Z0 E37.1
        have hk37 := Nat.le_trans hk0 E37.1
        have f40 : Fld Z h37 b37 "java/lang/String" "coder" "B" (.int 0) := D37 (Or.inr (own_h hw 31 rfl)) (ty := .byte) (by decide)
        have f41 : Fld Z h37 b37 "java/lang/String" "value" "[B" .null := D37 (Or.inr (own_h hw 33 rfl)) (ty := (.array .byte)) (by decide)
        refine own_s T37 (mkF m 76 #[iv p1, iv p2, iv p3, iv p4, iv ((p1 &&& (255 : Int32)).toUInt32.toUInt16.toUInt32.toInt32), iv ((p2 &&& (255 : Int32)).toUInt32.toUInt16.toUInt32.toInt32), iv ((p3 &&& (255 : Int32)).toUInt32.toUInt16.toUInt32.toInt32), iv (p4 &&& (3 : Int32))] [(.ref b37)]) st37 ?_
        refine own_s T37 (mkF m 78 #[iv p1, iv p2, iv p3, iv p4, iv ((p1 &&& (255 : Int32)).toUInt32.toUInt16.toUInt32.toInt32), iv ((p2 &&& (255 : Int32)).toUInt32.toUInt16.toUInt32.toInt32), iv ((p3 &&& (255 : Int32)).toUInt32.toUInt16.toUInt32.toInt32), iv (p4 &&& (3 : Int32))] [(.int 2), (.ref b37), (.ref b37)]) (fun _ k => XS.dup X37.here hx rfl (hb hby own_dhst_76) rfl rfl (XS.iconst X37.here hx rfl (hb hby own_dhst_77) k)) ?_
        obtain ⟨T42, h42, k42, X42, e42, E42, A42, st42⟩ := newP X37 hx hZ (own_h hw 7 rfl) e37 (g := (mkF m 78 #[iv p1, iv p2, iv p3, iv p4, iv ((p1 &&& (255 : Int32)).toUInt32.toUInt16.toUInt32.toInt32), iv ((p2 &&& (255 : Int32)).toUInt32.toUInt16.toUInt32.toInt32), iv ((p3 &&& (255 : Int32)).toUInt32.toUInt16.toUInt32.toInt32), iv (p4 &&& (3 : Int32))] [(.int 2), (.ref b37), (.ref b37)])) rfl (hb hby own_dhst_78) rfl (by decide) (cap := 2) (by decide) (by decide) (by decide) (by decide)
        obtain ⟨b42, g42⟩ : ∃ z, z = h37.size := ⟨_, rfl⟩
        have ne_b37_b42 : b37 ≠ b42 := Nat.ne_of_lt (Nat.lt_of_lt_of_le A37.lt (Nat.le_of_eq g42.symm))
        have g_b42 : n0 ≤ b42 := Nat.le_trans Z37 (Nat.le_of_eq g42.symm)
        have sz_b42 : h0.size ≤ b42 := Nat.le_trans K37.1 (Nat.le_of_eq g42.symm)
        rw [← g42] at A42 st42
        have f43 := Sta.ext E42 f38
        have f44 := Old.ext f39 E42
        have f45 := Exa.ext E42 A37
        have f46 := Fld.ext E42 f40
        have f47 := Fld.ext E42 f41
        have K42 : Keep h0 h42 [] := K37.ext E42
        have Z42 := Nat.le_trans Z37 E42.1
        have hk42 := Nat.le_trans hk37 E42.1
        have f42 : Arv Z h42 b42 k42 .char 2 [(.int 0), (.int 0)] (.int 0) := (Arv.new A42 (by decide)).pad (pad_rep [] (.int 0) 2)
        refine own_s T42 (mkF m 80 #[iv p1, iv p2, iv p3, iv p4, iv ((p1 &&& (255 : Int32)).toUInt32.toUInt16.toUInt32.toInt32), iv ((p2 &&& (255 : Int32)).toUInt32.toUInt16.toUInt32.toInt32), iv ((p3 &&& (255 : Int32)).toUInt32.toUInt16.toUInt32.toInt32), iv (p4 &&& (3 : Int32))] [(.ref b42), (.ref b37), (.ref b37)]) st42 ?_
        refine own_s T42 (mkF m 84 #[iv p1, iv p2, iv p3, iv p4, iv ((p1 &&& (255 : Int32)).toUInt32.toUInt16.toUInt32.toInt32), iv ((p2 &&& (255 : Int32)).toUInt32.toUInt16.toUInt32.toInt32), iv ((p3 &&& (255 : Int32)).toUInt32.toUInt16.toUInt32.toInt32), iv (p4 &&& (3 : Int32))] [(.int ((p1 &&& (255 : Int32)).toUInt32.toUInt16.toUInt32.toInt32)), (.int 0), (.ref b42), (.ref b42), (.ref b37), (.ref b37)]) (fun _ k => XS.dup X42.here hx rfl (hb hby own_dhst_80) rfl rfl (XS.iconst X42.here hx rfl (hb hby own_dhst_81) (XS.iload X42.here hx rfl (hb hby own_dhst_82) rfl  k))) ?_
        obtain ⟨cl48, Ar48, q48, S48, Nn48, H48, G48⟩ := id f42
        have hin48 : ¬ ((0 : Int32) < 0 ∨ cl48.slots.size ≤ ((0 : Int32)).toNatClampNeg) := (inb_of S48 ⟨by decide, by decide⟩)
        obtain ⟨T48, h48, X48, e48, W48, st48⟩ := stC X42 hx hZ e42 Ar48 (j := (0 : Int32)) hin48 (g := (mkF m 84 #[iv p1, iv p2, iv p3, iv p4, iv ((p1 &&& (255 : Int32)).toUInt32.toUInt16.toUInt32.toInt32), iv ((p2 &&& (255 : Int32)).toUInt32.toUInt16.toUInt32.toInt32), iv ((p3 &&& (255 : Int32)).toUInt32.toUInt16.toUInt32.toInt32), iv (p4 &&& (3 : Int32))] [(.int ((p1 &&& (255 : Int32)).toUInt32.toUInt16.toUInt32.toInt32)), (.int 0), (.ref b42), (.ref b42), (.ref b37), (.ref b37)])) rfl rfl (hb hby own_dhst_84)
        have f48 : Arv Z h48 b42 k42 .char (2 : Int32) [(.int (nar .char ((p1 &&& (255 : Int32)).toUInt32.toUInt16.toUInt32.toInt32))), (.int 0)] (.int 0) := Arv.set Ar48 q48 S48 Nn48 H48 G48 (fits_nar_char _) W48 0 rfl (Nat.le_of_ble_eq_true rfl)
        have f49 := Sta.wr W48 f43
        have f50 := Old.wr f44 W48 g_b42
        have f51 := Exa.wr W48 f45
        have f52 := Fld.other W48 f46 (Or.inl ne_b37_b42)
        have f53 := Fld.other W48 f47 (Or.inl ne_b37_b42)
        have K48 : Keep h0 h48 [] := K42.wr W48 (Or.inr sz_b42)
        have Z48 := Nat.le_trans Z42 (Nat.le_of_eq W48.size.symm)
        have hk48 := Nat.le_trans hk42 (Nat.le_of_eq W48.size.symm)
        have N48 := Fr.snoc X48 N0 g_b42
        refine own_s T48 (mkF m 85 #[iv p1, iv p2, iv p3, iv p4, iv ((p1 &&& (255 : Int32)).toUInt32.toUInt16.toUInt32.toInt32), iv ((p2 &&& (255 : Int32)).toUInt32.toUInt16.toUInt32.toInt32), iv ((p3 &&& (255 : Int32)).toUInt32.toUInt16.toUInt32.toInt32), iv (p4 &&& (3 : Int32))] [(.ref b42), (.ref b37), (.ref b37)]) st48 ?_
        refine own_s T48 (mkF m 89 #[iv p1, iv p2, iv p3, iv p4, iv ((p1 &&& (255 : Int32)).toUInt32.toUInt16.toUInt32.toInt32), iv ((p2 &&& (255 : Int32)).toUInt32.toUInt16.toUInt32.toInt32), iv ((p3 &&& (255 : Int32)).toUInt32.toUInt16.toUInt32.toInt32), iv (p4 &&& (3 : Int32))] [(.int ((p2 &&& (255 : Int32)).toUInt32.toUInt16.toUInt32.toInt32)), (.int 1), (.ref b42), (.ref b42), (.ref b37), (.ref b37)]) (fun _ k => XS.dup X48.here hx rfl (hb hby own_dhst_85) rfl rfl (XS.iconst X48.here hx rfl (hb hby own_dhst_86) (XS.iload X48.here hx rfl (hb hby own_dhst_87) rfl  k))) ?_
        obtain ⟨cl54, Ar54, q54, S54, Nn54, H54, G54⟩ := id f48
        have hin54 : ¬ ((1 : Int32) < 0 ∨ cl54.slots.size ≤ ((1 : Int32)).toNatClampNeg) := (inb_of S54 ⟨by decide, by decide⟩)
        obtain ⟨T54, h54, X54, e54, W54, st54⟩ := stC X48 hx hZ e48 Ar54 (j := (1 : Int32)) hin54 (g := (mkF m 89 #[iv p1, iv p2, iv p3, iv p4, iv ((p1 &&& (255 : Int32)).toUInt32.toUInt16.toUInt32.toInt32), iv ((p2 &&& (255 : Int32)).toUInt32.toUInt16.toUInt32.toInt32), iv ((p3 &&& (255 : Int32)).toUInt32.toUInt16.toUInt32.toInt32), iv (p4 &&& (3 : Int32))] [(.int ((p2 &&& (255 : Int32)).toUInt32.toUInt16.toUInt32.toInt32)), (.int 1), (.ref b42), (.ref b42), (.ref b37), (.ref b37)])) rfl rfl (hb hby own_dhst_89)
        have f54 : Arv Z h54 b42 k42 .char (2 : Int32) [(.int (nar .char ((p1 &&& (255 : Int32)).toUInt32.toUInt16.toUInt32.toInt32))), (.int (nar .char ((p2 &&& (255 : Int32)).toUInt32.toUInt16.toUInt32.toInt32)))] (.int 0) := Arv.set Ar54 q54 S54 Nn54 H54 G54 (fits_nar_char _) W54 1 rfl (Nat.le_of_ble_eq_true rfl)
        have f55 := Sta.wr W54 f49
        have f56 := Old.wr f50 W54 g_b42
        have f57 := Exa.wr W54 f51
        have f58 := Fld.other W54 f52 (Or.inl ne_b37_b42)
        have f59 := Fld.other W54 f53 (Or.inl ne_b37_b42)
        have K54 : Keep h0 h54 [] := K48.wr W54 (Or.inr sz_b42)
        have Z54 := Nat.le_trans Z48 (Nat.le_of_eq W54.size.symm)
        have hk54 := Nat.le_trans hk48 (Nat.le_of_eq W54.size.symm)
        have N54 := Fr.snoc X54 N48 g_b42
        refine own_s T54 (mkF m 90 #[iv p1, iv p2, iv p3, iv p4, iv ((p1 &&& (255 : Int32)).toUInt32.toUInt16.toUInt32.toInt32), iv ((p2 &&& (255 : Int32)).toUInt32.toUInt16.toUInt32.toInt32), iv ((p3 &&& (255 : Int32)).toUInt32.toUInt16.toUInt32.toInt32), iv (p4 &&& (3 : Int32))] [(.ref b42), (.ref b37), (.ref b37)]) st54 ?_
        obtain ⟨v60, T60, L60, X60, hQ60, st60⟩ := own_callI X54 hx hZ (y := own_y4) (W := 1) (a := b37) rfl hown (own_h hw 8 rfl) (own_h hw 9 rfl) (own_h hw 6 rfl) (own_h hw 10 rfl) (by decide) (own_rmsi1_2 l Z a0 hw [] b37 b42 k42 gC (nar .char ((p1 &&& (255 : Int32)).toUInt32.toUInt16.toUInt32.toInt32)) (nar .char ((p2 &&& (255 : Int32)).toUInt32.toUInt16.toUInt32.toInt32)) h54 n0 Z54 g_b37 f57 f58 f59 f54 (Ne.symm ne_b37_b42) f55 hG (own_c255 _) (own_c255 _)) (by decide) (by decide) (g := (mkF m 90 #[iv p1, iv p2, iv p3, iv p4, iv ((p1 &&& (255 : Int32)).toUInt32.toUInt16.toUInt32.toInt32), iv ((p2 &&& (255 : Int32)).toUInt32.toUInt16.toUInt32.toInt32), iv ((p3 &&& (255 : Int32)).toUInt32.toUInt16.toUInt32.toInt32), iv (p4 &&& (3 : Int32))] [(.ref b42), (.ref b37), (.ref b37)])) rfl (by rw [hml]; rfl) (argsL := [(.ref b42)]) (rest := [(.ref b37)]) rfl (lenOf own_pd4 rfl) rfl (by show 2 * 0 + _ ≤ _; exact Nat.le_of_eq rfl) (hb hby own_dhst_90) e54 (by decide) (by decide)
        obtain ⟨rfl, Nq60, Kq60, Eq60, Cq60, b60, k60, g_b60, sq60, Wq60, Vq60⟩ := hQ60
        have N60 := Fr.app N54 Nq60
        have ne_b37_b60 : b37 ≠ b60 := Nat.ne_of_lt (Nat.lt_of_lt_of_le f57.lt sq60)
        have ne_b42_b60 : b42 ≠ b60 := Nat.ne_of_lt (Nat.lt_of_lt_of_le f54.lt sq60)
        have sz_b60 : h0.size ≤ b60 := Nat.le_trans K54.1 sq60
        have f61 := own_staKeepW f55 Kq60 (allS f57.nostat all0)
        have f62 := Old.keep f56 Kq60 (allS g_b37 all0)
        have f63 := f54.keep Kq60 (ninS (Ne.symm ne_b37_b42) nin0)
        have K60 : Keep h0 T60.heap [] := K54.trans Kq60 (allS (Or.inr sz_b37) all0)
        have Z60 := Nat.le_trans Z54 Kq60.1
        have hk60 := Nat.le_trans hk54 Kq60.1
        refine own_s T60 (mkF m 93 #[iv p1, iv p2, iv p3, iv p4, iv ((p1 &&& (255 : Int32)).toUInt32.toUInt16.toUInt32.toInt32), iv ((p2 &&& (255 : Int32)).toUInt32.toUInt16.toUInt32.toInt32), iv ((p3 &&& (255 : Int32)).toUInt32.toUInt16.toUInt32.toInt32), iv (p4 &&& (3 : Int32))] [(.ref b37)]) st60 ?_
        exact own_finA X60 hx hret rfl rfl (hb hby own_dhst_93) (own_endW (Qv := (own_Qhst Z p1 p2 p3 p4 gC h0 n0)) X60 hS (own_some hret) hlk (by decide) (by decide) rfl hk60 (fun vm' hv' => ⟨⟨b37, rfl, g_b37, Eq60⟩, N60, K60, own_ELw (own_ELk hJ K60) hv'⟩))
      · refine own_s s₁ (mkF m 94 #[iv p1, iv p2, iv p3, iv p4, iv ((p1 &&& (255 : Int32)).toUInt32.toUInt16.toUInt32.toInt32), iv ((p2 &&& (255 : Int32)).toUInt32.toUInt16.toUInt32.toInt32), iv ((p3 &&& (255 : Int32)).toUInt32.toUInt16.toUInt32.toInt32), iv (p4 &&& (3 : Int32))] []) (fun _ k => XS.icmpYes X0.here hx rfl (pc0 := 70) (pc' := 94) rfl (hb hby own_dhst_70) rfl (feq c70).2 (by decide) (by decide) k) ?_
        obtain ⟨T64, h64, X64, e64, E64, A64, D64, -, st64⟩ := newO X0 hx hZ hown (own_h hw 4 rfl) (own_h hw 5 rfl) (own_h hw 6 rfl) e0 (g := (mkF m 94 #[iv p1, iv p2, iv p3, iv p4, iv ((p1 &&& (255 : Int32)).toUInt32.toUInt16.toUInt32.toInt32), iv ((p2 &&& (255 : Int32)).toUInt32.toUInt16.toUInt32.toInt32), iv ((p3 &&& (255 : Int32)).toUInt32.toUInt16.toUInt32.toInt32), iv (p4 &&& (3 : Int32))] [])) rfl (hb hby own_dhst_94) (by decide) (by decide)
        obtain ⟨b64, g64⟩ : ∃ z, z = h0.size := ⟨_, rfl⟩
        have g_b64 : n0 ≤ b64 := Nat.le_trans Z0 (Nat.le_of_eq g64.symm)
        have sz_b64 : h0.size ≤ b64 := Nat.le_trans (Keep.refl h0 []).1 (Nat.le_of_eq g64.symm)
        rw [← g64] at A64 D64 st64
        have f65 := Sta.ext E64 SC
        have f66 := Old.ext hO E64
        have K64 : Keep h0 h64 [] := (Keep.refl h0 []).ext E64
        have Z64 := Nat.le_trans Z0 E64.1
        have hk64 := Nat.le_trans hk0 E64.1
        have f67 : Fld Z h64 b64 "java/lang/String" "coder" "B" (.int 0) := D64 (Or.inr (own_h hw 31 rfl)) (ty := .byte) (by decide)
        have f68 : Fld Z h64 b64 "java/lang/String" "value" "[B" .null := D64 (Or.inr (own_h hw 33 rfl)) (ty := (.array .byte)) (by decide)
        refine own_s T64 (mkF m 97 #[iv p1, iv p2, iv p3, iv p4, iv ((p1 &&& (255 : Int32)).toUInt32.toUInt16.toUInt32.toInt32), iv ((p2 &&& (255 : Int32)).toUInt32.toUInt16.toUInt32.toInt32), iv ((p3 &&& (255 : Int32)).toUInt32.toUInt16.toUInt32.toInt32), iv (p4 &&& (3 : Int32))] [(.ref b64)]) st64 ?_
        refine own_s T64 (mkF m 99 #[iv p1, iv p2, iv p3, iv p4, iv ((p1 &&& (255 : Int32)).toUInt32.toUInt16.toUInt32.toInt32), iv ((p2 &&& (255 : Int32)).toUInt32.toUInt16.toUInt32.toInt32), iv ((p3 &&& (255 : Int32)).toUInt32.toUInt16.toUInt32.toInt32), iv (p4 &&& (3 : Int32))] [(.int 3), (.ref b64), (.ref b64)]) (fun _ k => XS.dup X64.here hx rfl (hb hby own_dhst_97) rfl rfl (XS.iconst X64.here hx rfl (hb hby own_dhst_98) k)) ?_
        obtain ⟨T69, h69, k69, X69, e69, E69, A69, st69⟩ := newP X64 hx hZ (own_h hw 7 rfl) e64 (g := (mkF m 99 #[iv p1, iv p2, iv p3, iv p4, iv ((p1 &&& (255 : Int32)).toUInt32.toUInt16.toUInt32.toInt32), iv ((p2 &&& (255 : Int32)).toUInt32.toUInt16.toUInt32.toInt32), iv ((p3 &&& (255 : Int32)).toUInt32.toUInt16.toUInt32.toInt32), iv (p4 &&& (3 : Int32))] [(.int 3), (.ref b64), (.ref b64)])) rfl (hb hby own_dhst_99) rfl (by decide) (cap := 3) (by decide) (by decide) (by decide) (by decide)
        obtain ⟨b69, g69⟩ : ∃ z, z = h64.size := ⟨_, rfl⟩
        have ne_b64_b69 : b64 ≠ b69 := Nat.ne_of_lt (Nat.lt_of_lt_of_le A64.lt (Nat.le_of_eq g69.symm))
        have g_b69 : n0 ≤ b69 := Nat.le_trans Z64 (Nat.le_of_eq g69.symm)
        have sz_b69 : h0.size ≤ b69 := Nat.le_trans K64.1 (Nat.le_of_eq g69.symm)
        rw [← g69] at A69 st69
        have f70 := Sta.ext E69 f65
        have f71 := Old.ext f66 E69
        have f72 := Exa.ext E69 A64
        have f73 := Fld.ext E69 f67
        have f74 := Fld.ext E69 f68
        have K69 : Keep h0 h69 [] := K64.ext E69
        have Z69 := Nat.le_trans Z64 E69.1
        have hk69 := Nat.le_trans hk64 E69.1
        have f69 : Arv Z h69 b69 k69 .char 3 [(.int 0), (.int 0), (.int 0)] (.int 0) := (Arv.new A69 (by decide)).pad (pad_rep [] (.int 0) 3)
        refine own_s T69 (mkF m 101 #[iv p1, iv p2, iv p3, iv p4, iv ((p1 &&& (255 : Int32)).toUInt32.toUInt16.toUInt32.toInt32), iv ((p2 &&& (255 : Int32)).toUInt32.toUInt16.toUInt32.toInt32), iv ((p3 &&& (255 : Int32)).toUInt32.toUInt16.toUInt32.toInt32), iv (p4 &&& (3 : Int32))] [(.ref b69), (.ref b64), (.ref b64)]) st69 ?_
        refine own_s T69 (mkF m 105 #[iv p1, iv p2, iv p3, iv p4, iv ((p1 &&& (255 : Int32)).toUInt32.toUInt16.toUInt32.toInt32), iv ((p2 &&& (255 : Int32)).toUInt32.toUInt16.toUInt32.toInt32), iv ((p3 &&& (255 : Int32)).toUInt32.toUInt16.toUInt32.toInt32), iv (p4 &&& (3 : Int32))] [(.int ((p1 &&& (255 : Int32)).toUInt32.toUInt16.toUInt32.toInt32)), (.int 0), (.ref b69), (.ref b69), (.ref b64), (.ref b64)]) (fun _ k => XS.dup X69.here hx rfl (hb hby own_dhst_101) rfl rfl (XS.iconst X69.here hx rfl (hb hby own_dhst_102) (XS.iload X69.here hx rfl (hb hby own_dhst_103) rfl  k))) ?_
        obtain ⟨cl75, Ar75, q75, S75, Nn75, H75, G75⟩ := id f69
        have hin75 : ¬ ((0 : Int32) < 0 ∨ cl75.slots.size ≤ ((0 : Int32)).toNatClampNeg) := (inb_of S75 ⟨by decide, by decide⟩)
        obtain ⟨T75, h75, X75, e75, W75, st75⟩ := stC X69 hx hZ e69 Ar75 (j := (0 : Int32)) hin75 (g := (mkF m 105 #[iv p1, iv p2, iv p3, iv p4, iv ((p1 &&& (255 : Int32)).toUInt32.toUInt16.toUInt32.toInt32), iv ((p2 &&& (255 : Int32)).toUInt32.toUInt16.toUInt32.toInt32), iv ((p3 &&& (255 : Int32)).toUInt32.toUInt16.toUInt32.toInt32), iv (p4 &&& (3 : Int32))] [(.int ((p1 &&& (255 : Int32)).toUInt32.toUInt16.toUInt32.toInt32)), (.int 0), (.ref b69), (.ref b69), (.ref b64), (.ref b64)])) rfl rfl (hb hby own_dhst_105)
        have f75 : Arv Z h75 b69 k69 .char (3 : Int32) [(.int (nar .char ((p1 &&& (255 : Int32)).toUInt32.toUInt16.toUInt32.toInt32))), (.int 0), (.int 0)] (.int 0) := Arv.set Ar75 q75 S75 Nn75 H75 G75 (fits_nar_char _) W75 0 rfl (Nat.le_of_ble_eq_true rfl)
        have f76 := Sta.wr W75 f70
        have f77 := Old.wr f71 W75 g_b69
        have f78 := Exa.wr W75 f72
        have f79 := Fld.other W75 f73 (Or.inl ne_b64_b69)
        have f80 := Fld.other W75 f74 (Or.inl ne_b64_b69)
        have K75 : Keep h0 h75 [] := K69.wr W75 (Or.inr sz_b69)
        have Z75 := Nat.le_trans Z69 (Nat.le_of_eq W75.size.symm)
        have hk75 := Nat.le_trans hk69 (Nat.le_of_eq W75.size.symm)
        have N75 := Fr.snoc X75 N0 g_b69
        refine own_s T75 (mkF m 106 #[iv p1, iv p2, iv p3, iv p4, iv ((p1 &&& (255 : Int32)).toUInt32.toUInt16.toUInt32.toInt32), iv ((p2 &&& (255 : Int32)).toUInt32.toUInt16.toUInt32.toInt32), iv ((p3 &&& (255 : Int32)).toUInt32.toUInt16.toUInt32.toInt32), iv (p4 &&& (3 : Int32))] [(.ref b69), (.ref b64), (.ref b64)]) st75 ?_
        refine own_s T75 (mkF m 110 #[iv p1, iv p2, iv p3, iv p4, iv ((p1 &&& (255 : Int32)).toUInt32.toUInt16.toUInt32.toInt32), iv ((p2 &&& (255 : Int32)).toUInt32.toUInt16.toUInt32.toInt32), iv ((p3 &&& (255 : Int32)).toUInt32.toUInt16.toUInt32.toInt32), iv (p4 &&& (3 : Int32))] [(.int ((p2 &&& (255 : Int32)).toUInt32.toUInt16.toUInt32.toInt32)), (.int 1), (.ref b69), (.ref b69), (.ref b64), (.ref b64)]) (fun _ k => XS.dup X75.here hx rfl (hb hby own_dhst_106) rfl rfl (XS.iconst X75.here hx rfl (hb hby own_dhst_107) (XS.iload X75.here hx rfl (hb hby own_dhst_108) rfl  k))) ?_
        obtain ⟨cl81, Ar81, q81, S81, Nn81, H81, G81⟩ := id f75
        have hin81 : ¬ ((1 : Int32) < 0 ∨ cl81.slots.size ≤ ((1 : Int32)).toNatClampNeg) := (inb_of S81 ⟨by decide, by decide⟩)
        obtain ⟨T81, h81, X81, e81, W81, st81⟩ := stC X75 hx hZ e75 Ar81 (j := (1 : Int32)) hin81 (g := (mkF m 110 #[iv p1, iv p2, iv p3, iv p4, iv ((p1 &&& (255 : Int32)).toUInt32.toUInt16.toUInt32.toInt32), iv ((p2 &&& (255 : Int32)).toUInt32.toUInt16.toUInt32.toInt32), iv ((p3 &&& (255 : Int32)).toUInt32.toUInt16.toUInt32.toInt32), iv (p4 &&& (3 : Int32))] [(.int ((p2 &&& (255 : Int32)).toUInt32.toUInt16.toUInt32.toInt32)), (.int 1), (.ref b69), (.ref b69), (.ref b64), (.ref b64)])) rfl rfl (hb hby own_dhst_110)
        have f81 : Arv Z h81 b69 k69 .char (3 : Int32) [(.int (nar .char ((p1 &&& (255 : Int32)).toUInt32.toUInt16.toUInt32.toInt32))), (.int (nar .char ((p2 &&& (255 : Int32)).toUInt32.toUInt16.toUInt32.toInt32))), (.int 0)] (.int 0) := Arv.set Ar81 q81 S81 Nn81 H81 G81 (fits_nar_char _) W81 1 rfl (Nat.le_of_ble_eq_true rfl)
        have f82 := Sta.wr W81 f76
        have f83 := Old.wr f77 W81 g_b69
        have f84 := Exa.wr W81 f78
        have f85 := Fld.other W81 f79 (Or.inl ne_b64_b69)
        have f86 := Fld.other W81 f80 (Or.inl ne_b64_b69)
        have K81 : Keep h0 h81 [] := K75.wr W81 (Or.inr sz_b69)
        have Z81 := Nat.le_trans Z75 (Nat.le_of_eq W81.size.symm)
        have hk81 := Nat.le_trans hk75 (Nat.le_of_eq W81.size.symm)
        have N81 := Fr.snoc X81 N75 g_b69
        refine own_s T81 (mkF m 111 #[iv p1, iv p2, iv p3, iv p4, iv ((p1 &&& (255 : Int32)).toUInt32.toUInt16.toUInt32.toInt32), iv ((p2 &&& (255 : Int32)).toUInt32.toUInt16.toUInt32.toInt32), iv ((p3 &&& (255 : Int32)).toUInt32.toUInt16.toUInt32.toInt32), iv (p4 &&& (3 : Int32))] [(.ref b69), (.ref b64), (.ref b64)]) st81 ?_
        refine own_s T81 (mkF m 115 #[iv p1, iv p2, iv p3, iv p4, iv ((p1 &&& (255 : Int32)).toUInt32.toUInt16.toUInt32.toInt32), iv ((p2 &&& (255 : Int32)).toUInt32.toUInt16.toUInt32.toInt32), iv ((p3 &&& (255 : Int32)).toUInt32.toUInt16.toUInt32.toInt32), iv (p4 &&& (3 : Int32))] [(.int ((p3 &&& (255 : Int32)).toUInt32.toUInt16.toUInt32.toInt32)), (.int 2), (.ref b69), (.ref b69), (.ref b64), (.ref b64)]) (fun _ k => XS.dup X81.here hx rfl (hb hby own_dhst_111) rfl rfl (XS.iconst X81.here hx rfl (hb hby own_dhst_112) (XS.iload X81.here hx rfl (hb hby own_dhst_113) rfl  k))) ?_
        obtain ⟨cl87, Ar87, q87, S87, Nn87, H87, G87⟩ := id f81
        have hin87 : ¬ ((2 : Int32) < 0 ∨ cl87.slots.size ≤ ((2 : Int32)).toNatClampNeg) := (inb_of S87 ⟨by decide, by decide⟩)
        obtain ⟨T87, h87, X87, e87, W87, st87⟩ := stC X81 hx hZ e81 Ar87 (j := (2 : Int32)) hin87 (g := (mkF m 115 #[iv p1, iv p2, iv p3, iv p4, iv ((p1 &&& (255 : Int32)).toUInt32.toUInt16.toUInt32.toInt32), iv ((p2 &&& (255 : Int32)).toUInt32.toUInt16.toUInt32.toInt32), iv ((p3 &&& (255 : Int32)).toUInt32.toUInt16.toUInt32.toInt32), iv (p4 &&& (3 : Int32))] [(.int ((p3 &&& (255 : Int32)).toUInt32.toUInt16.toUInt32.toInt32)), (.int 2), (.ref b69), (.ref b69), (.ref b64), (.ref b64)])) rfl rfl (hb hby own_dhst_115)
        have f87 : Arv Z h87 b69 k69 .char (3 : Int32) [(.int (nar .char ((p1 &&& (255 : Int32)).toUInt32.toUInt16.toUInt32.toInt32))), (.int (nar .char ((p2 &&& (255 : Int32)).toUInt32.toUInt16.toUInt32.toInt32))), (.int (nar .char ((p3 &&& (255 : Int32)).toUInt32.toUInt16.toUInt32.toInt32)))] (.int 0) := Arv.set Ar87 q87 S87 Nn87 H87 G87 (fits_nar_char _) W87 2 rfl (Nat.le_of_ble_eq_true rfl)
        have f88 := Sta.wr W87 f82
        have f89 := Old.wr f83 W87 g_b69
        have f90 := Exa.wr W87 f84
        have f91 := Fld.other W87 f85 (Or.inl ne_b64_b69)
        have f92 := Fld.other W87 f86 (Or.inl ne_b64_b69)
        have K87 : Keep h0 h87 [] := K81.wr W87 (Or.inr sz_b69)
        have Z87 := Nat.le_trans Z81 (Nat.le_of_eq W87.size.symm)
        have hk87 := Nat.le_trans hk81 (Nat.le_of_eq W87.size.symm)
        have N87 := Fr.snoc X87 N81 g_b69
        refine own_s T87 (mkF m 116 #[iv p1, iv p2, iv p3, iv p4, iv ((p1 &&& (255 : Int32)).toUInt32.toUInt16.toUInt32.toInt32), iv ((p2 &&& (255 : Int32)).toUInt32.toUInt16.toUInt32.toInt32), iv ((p3 &&& (255 : Int32)).toUInt32.toUInt16.toUInt32.toInt32), iv (p4 &&& (3 : Int32))] [(.ref b69), (.ref b64), (.ref b64)]) st87 ?_
        obtain ⟨v93, T93, L93, X93, hQ93, st93⟩ := own_callI X87 hx hZ (y := own_y4) (W := 1) (a := b64) rfl hown (own_h hw 8 rfl) (own_h hw 9 rfl) (own_h hw 6 rfl) (own_h hw 10 rfl) (by decide) (own_rmsi1_3 l Z a0 hw [] b64 b69 k69 gC (nar .char ((p1 &&& (255 : Int32)).toUInt32.toUInt16.toUInt32.toInt32)) (nar .char ((p2 &&& (255 : Int32)).toUInt32.toUInt16.toUInt32.toInt32)) (nar .char ((p3 &&& (255 : Int32)).toUInt32.toUInt16.toUInt32.toInt32)) h87 n0 Z87 g_b64 f90 f91 f92 f87 (Ne.symm ne_b64_b69) f88 hG (own_c255 _) (own_c255 _) (own_c255 _)) (by decide) (by decide) (g := (mkF m 116 #[iv p1, iv p2, iv p3, iv p4, iv ((p1 &&& (255 : Int32)).toUInt32.toUInt16.toUInt32.toInt32), iv ((p2 &&& (255 : Int32)).toUInt32.toUInt16.toUInt32.toInt32), iv ((p3 &&& (255 : Int32)).toUInt32.toUInt16.toUInt32.toInt32), iv (p4 &&& (3 : Int32))] [(.ref b69), (.ref b64), (.ref b64)])) rfl (by rw [hml]; rfl) (argsL := [(.ref b69)]) (rest := [(.ref b64)]) rfl (lenOf own_pd4 rfl) rfl (by show 2 * 0 + _ ≤ _; exact Nat.le_of_eq rfl) (hb hby own_dhst_116) e87 (by decide) (by decide)
        obtain ⟨rfl, Nq93, Kq93, Eq93, Cq93, b93, k93, g_b93, sq93, Wq93, Vq93⟩ := hQ93
        have N93 := Fr.app N87 Nq93
        have ne_b64_b93 : b64 ≠ b93 := Nat.ne_of_lt (Nat.lt_of_lt_of_le f90.lt sq93)
        have ne_b69_b93 : b69 ≠ b93 := Nat.ne_of_lt (Nat.lt_of_lt_of_le f87.lt sq93)
        have sz_b93 : h0.size ≤ b93 := Nat.le_trans K87.1 sq93
        have f94 := own_staKeepW f88 Kq93 (allS f90.nostat all0)
        have f95 := Old.keep f89 Kq93 (allS g_b64 all0)
        have f96 := f87.keep Kq93 (ninS (Ne.symm ne_b64_b69) nin0)
        have K93 : Keep h0 T93.heap [] := K87.trans Kq93 (allS (Or.inr sz_b64) all0)
        have Z93 := Nat.le_trans Z87 Kq93.1
        have hk93 := Nat.le_trans hk87 Kq93.1
        refine own_s T93 (mkF m 119 #[iv p1, iv p2, iv p3, iv p4, iv ((p1 &&& (255 : Int32)).toUInt32.toUInt16.toUInt32.toInt32), iv ((p2 &&& (255 : Int32)).toUInt32.toUInt16.toUInt32.toInt32), iv ((p3 &&& (255 : Int32)).toUInt32.toUInt16.toUInt32.toInt32), iv (p4 &&& (3 : Int32))] [(.ref b64)]) st93 ?_
        exact own_finA X93 hx hret rfl rfl (hb hby own_dhst_119) (own_endW (Qv := (own_Qhst Z p1 p2 p3 p4 gC h0 n0)) X93 hS (own_some hret) hlk (by decide) (by decide) rfl hk93 (fun vm' hv' => ⟨⟨b64, rfl, g_b64, Eq93⟩, N93, K93, own_ELw (own_ELk hJ K93) hv'⟩))
abbrev own_y6 : MethodName := ⟨"java/lang/Math", "max", "(JJ)J"⟩
theorem own_dml_0 : decode jdk_29_method_66_code 0 = .ok (.lload_n 0, 1) := by decide +kernel
theorem own_dml_1 : decode jdk_29_method_66_code 1 = .ok (.lload_n 2, 1) := by decide +kernel
theorem own_dml_2 : decode jdk_29_method_66_code 2 = .ok (.lcmp, 1) := by decide +kernel
theorem own_dml_3 : decode jdk_29_method_66_code 3 = .ok (.ifCond .lt 7, 3) := by decide +kernel
theorem own_dml_6 : decode jdk_29_method_66_code 6 = .ok (.lload_n 0, 1) := by decide +kernel
theorem own_dml_7 : decode jdk_29_method_66_code 7 = .ok (.goto 4, 3) := by decide +kernel
theorem own_dml_10 : decode jdk_29_method_66_code 10 = .ok (.lload_n 2, 1) := by decide +kernel
theorem own_dml_11 : decode jdk_29_method_66_code 11 = .ok (.lreturn, 1) := by decide +kernel
theorem own_efml (m : MethodId) (x0 : Int64) (x1 : Int64) : entryFrame m #[(.long x0), (.long x1)] 4 = mkF m 0 #[.val (.long x0), v_, .val (.long x1), v_] [] := by first | (simp [entryFrame, mkF, argsToLocals, Value.category]; done) | rfl
def own_Qml (Z : State) (p1 : Int64) (p2 : Int64) (h0 : Heap) (n0 : Nat) : Option Value → Heap → List Loc → Prop := fun v h L => v = some (.long (own_mxL p1 p2)) ∧ Fr n0 L ∧ h = h0
def own_Rml : Room := { frames := 0, cells := 0, slots := 0, locals := 0 }
set_option maxRecDepth 65536 in
set_option maxHeartbeats 40000000 in
theorem own_rmml (l : Launch) (Z : State) (a0 : Array Value) (hw : ∀ d ∈ tables_1, d.before a0 Z = true) (ws : List Jvm.Cond) (p1 : Int64) (p2 : Int64) (h0 : Heap) (n0 : Nat) (Z0 : n0 ≤ h0.size) :
    own_Met l Z own_y6 jdk_29_method_66_code 4 (some .long) ws own_Rml h0 #[(.long p1), (.long p2)] (own_Qml Z p1 p2 h0 n0) own_Rml.cells own_Rml.slots := by
  refine own_start (Jvm.Free.JP.mathPlain rfl (by decide +kernel)) ?_
  intro p e s m below meth c s₁ X0 hx hZ hby hml hret hlk hown hnm e0
  have hown : s.vm.findClass "java/lang/Math" = some m.cls := hown
  have hml : c.maxLocals = 4 := hml
  have N0 := Fr.nil n0
  refine own_cast (own_efml m p1 p2) ?_
  refine own_s s₁ (mkF m 3 #[.val (.long p1), v_, .val (.long p2), v_] [(.int (lcmpW p1 p2))]) (fun _ k => XS.lloadN X0.here hx rfl (hb hby own_dml_0) rfl  (XS.lloadN X0.here hx rfl (hb hby own_dml_1) rfl  (XS.lcmp X0.here hx rfl (hb hby own_dml_2) rfl k))) ?_
  by_cases c3 : p1 < p2
  · refine own_s s₁ (mkF m 11 #[.val (.long p1), v_, .val (.long p2), v_] [(.long p2)]) (fun _ k => XS.ifYes X0.here hx rfl (pc0 := 3) (pc' := 10) rfl (hb hby own_dml_3) rfl ((if0 _ _).trans (tlt (own_lclt c3)).1) (by decide) (by decide) (XS.lloadN X0.here hx rfl (hb hby own_dml_10) rfl  k)) ?_
    exact own_finL X0 hx hret (hb hby own_dml_11) (own_end (Qv := (own_Qml Z p1 p2 h0 n0)) X0 (own_some hret) hlk (by decide) (by decide) e0 ⟨by simp [own_mxL, c3], N0, rfl⟩)
  · refine own_s s₁ (mkF m 11 #[.val (.long p1), v_, .val (.long p2), v_] [(.long p1)]) (fun _ k => XS.ifNo X0.here hx rfl (hb hby own_dml_3) rfl ((if0 _ _).trans (flt (own_lcltN c3)).1) (XS.lloadN X0.here hx rfl (hb hby own_dml_6) rfl  (XS.goto X0.here hx rfl (pc0 := 7) (pc' := 11) rfl (hb hby own_dml_7) (by decide) (by decide) k))) ?_
    exact own_finL X0 hx hret (hb hby own_dml_11) (own_end (Qv := (own_Qml Z p1 p2 h0 n0)) X0 (own_some hret) hlk (by decide) (by decide) e0 ⟨by simp [own_mxL, c3], N0, rfl⟩)
abbrev own_y7 : MethodName := ⟨"java/lang/Record", "<init>", "()V"⟩
theorem own_pn3 : plainName "java/lang/Record" = true := by first | (simp [plainName, overriddenIn]; done) | decide +kernel
theorem own_drec_0 : decode jdk_30_method_1_code 0 = .ok (.aload_n 0, 1) := by decide +kernel
theorem own_drec_1 : decode jdk_30_method_1_code 1 = .ok (.invokespecial 1, 3) := by decide +kernel
theorem own_drec_4 : decode jdk_30_method_1_code 4 = .ok (.return_, 1) := by decide +kernel
theorem own_efrec (m : MethodId) (x0 : Addr) : entryFrame m #[(.ref x0)] 1 = mkF m 0 #[rv x0] [] := by first | (simp [entryFrame, mkF, argsToLocals, Value.category]; done) | rfl
def own_Qrec (Z : State) (a1 : Addr) (h0 : Heap) (n0 : Nat) : Option Value → Heap → List Loc → Prop := fun v h L => v = none ∧ Fr n0 L ∧ h = h0
def own_Rrec : Room := { frames := 1, cells := 0, slots := 0, locals := 12 }
set_option maxRecDepth 65536 in
set_option maxHeartbeats 40000000 in
theorem own_rmrec (l : Launch) (Z : State) (a0 : Array Value) (hw : ∀ d ∈ tables_1, d.before a0 Z = true) (ws : List Jvm.Cond) (a1 : Addr) (h0 : Heap) (n0 : Nat) (Z0 : n0 ≤ h0.size) :
    own_Met l Z own_y7 jdk_30_method_1_code 1 none ws own_Rrec h0 #[(.ref a1)] (own_Qrec Z a1 h0 n0) own_Rrec.cells own_Rrec.slots := by
  refine own_start (plainFor_of_name own_pn3) ?_
  intro p e s m below meth c s₁ X0 hx hZ hby hml hret hlk hown hnm e0
  have hown : s.vm.findClass "java/lang/Record" = some m.cls := hown
  have hml : c.maxLocals = 1 := hml
  have N0 := Fr.nil n0
  refine own_cast (own_efrec m a1) ?_
  refine own_s s₁ (mkF m 1 #[rv a1] [(.ref a1)]) (fun _ k => XS.aloadN X0.here hx rfl (hb hby own_drec_0) rfl rfl k) ?_
  obtain ⟨T1, X1, e1, st1⟩ := initO X0 hx hZ hown (own_h hw 49 rfl) (own_h hw 16 rfl) (own_h hw 17 rfl) e0 (g := (mkF m 1 #[rv a1] [(.ref a1)])) rfl (by rw [hml]; rfl) rfl (hb hby own_drec_1) (by decide) (W := 0) (by show 2 * 0 + _ ≤ _; exact Nat.le_of_eq rfl) (by decide)
  refine own_s T1 (mkF m 4 #[rv a1] []) st1 ?_
  exact own_finV X1 hx hret (hb hby own_drec_4) (own_end (Qv := (own_Qrec Z a1 h0 n0)) X1 (fun _ => rfl) hlk (by decide) (by decide) e1 ⟨rfl, N0, rfl⟩)
theorem own_pd5 : parseMethodDescriptor "()V" = some ⟨[], none⟩ := by decide +kernel
abbrev own_y8 : MethodName := ⟨"com/example/tidewire/tidewire/rpc/ProviderAddress", "<init>", "(Ljava/lang/String;IIIJ)V"⟩
theorem own_pn4 : plainName "com/example/tidewire/tidewire/rpc/ProviderAddress" = true := by first | (simp [plainName, overriddenIn]; done) | decide +kernel
theorem own_dini_0 : decode prog_29_method_1_code 0 = .ok (.aload_n 0, 1) := by decide +kernel
theorem own_dini_1 : decode prog_29_method_1_code 1 = .ok (.invokespecial 1, 3) := by decide +kernel
theorem own_dini_4 : decode prog_29_method_1_code 4 = .ok (.aload_n 0, 1) := by decide +kernel
theorem own_dini_5 : decode prog_29_method_1_code 5 = .ok (.aload_n 1, 1) := by decide +kernel
theorem own_dini_6 : decode prog_29_method_1_code 6 = .ok (.putfield 7, 3) := by decide +kernel
theorem own_dini_9 : decode prog_29_method_1_code 9 = .ok (.aload_n 0, 1) := by decide +kernel
theorem own_dini_10 : decode prog_29_method_1_code 10 = .ok (.iload_n 2, 1) := by decide +kernel
theorem own_dini_11 : decode prog_29_method_1_code 11 = .ok (.putfield 13, 3) := by decide +kernel
theorem own_dini_14 : decode prog_29_method_1_code 14 = .ok (.aload_n 0, 1) := by decide +kernel
theorem own_dini_15 : decode prog_29_method_1_code 15 = .ok (.iload_n 3, 1) := by decide +kernel
theorem own_dini_16 : decode prog_29_method_1_code 16 = .ok (.putfield 17, 3) := by decide +kernel
theorem own_dini_19 : decode prog_29_method_1_code 19 = .ok (.aload_n 0, 1) := by decide +kernel
theorem own_dini_20 : decode prog_29_method_1_code 20 = .ok (.iload 4, 2) := by decide +kernel
theorem own_dini_22 : decode prog_29_method_1_code 22 = .ok (.putfield 20, 3) := by decide +kernel
theorem own_dini_25 : decode prog_29_method_1_code 25 = .ok (.aload_n 0, 1) := by decide +kernel
theorem own_dini_26 : decode prog_29_method_1_code 26 = .ok (.lload 5, 2) := by decide +kernel
theorem own_dini_28 : decode prog_29_method_1_code 28 = .ok (.putfield 23, 3) := by decide +kernel
theorem own_dini_31 : decode prog_29_method_1_code 31 = .ok (.return_, 1) := by decide +kernel
theorem own_efini (m : MethodId) (x0 : Addr) (x1 : Addr) (x2 : Int32) (x3 : Int32) (x4 : Int32) (x5 : Int64) : entryFrame m #[(.ref x0), (.ref x1), (.int x2), (.int x3), (.int x4), (.long x5)] 7 = mkF m 0 #[rv x0, rv x1, iv x2, iv x3, iv x4, .val (.long x5), v_] [] := by first | (simp [entryFrame, mkF, argsToLocals, Value.category]; done) | rfl
def own_Qini (Z : State) (a1 : Addr) (a2 : Addr) (p3 : Int32) (p4 : Int32) (p5 : Int32) (p6 : Int64) (h0 : Heap) (n0 : Nat) : Option Value → Heap → List Loc → Prop := fun v h L => v = none ∧ Fr n0 L ∧ Keep h0 h [a1] ∧ Exa Z h a1 "com/example/tidewire/tidewire/rpc/ProviderAddress" ∧ Fld Z h a1 "com/example/tidewire/tidewire/rpc/ProviderAddress" "host" "Ljava/lang/String;" (.ref a2) ∧ Fld Z h a1 "com/example/tidewire/tidewire/rpc/ProviderAddress" "port" "I" (.int p3) ∧ Fld Z h a1 "com/example/tidewire/tidewire/rpc/ProviderAddress" "weight" "I" (.int p4) ∧ Fld Z h a1 "com/example/tidewire/tidewire/rpc/ProviderAddress" "warmupMillis" "I" (.int p5) ∧ Fld Z h a1 "com/example/tidewire/tidewire/rpc/ProviderAddress" "startMillis" "J" (.long p6)
def own_Rini : Room := { frames := 2, cells := 0, slots := 0, locals := 24 }
set_option maxRecDepth 65536 in
set_option maxHeartbeats 40000000 in
theorem own_rmini (l : Launch) (Z : State) (a0 : Array Value) (hw : ∀ d ∈ tables_1, d.before a0 Z = true) (ws : List Jvm.Cond) (a1 : Addr) (a2 : Addr) (p3 : Int32) (p4 : Int32) (p5 : Int32) (p6 : Int64) (h0 : Heap) (n0 : Nat) (Z0 : n0 ≤ h0.size) (g_a1 : n0 ≤ a1) (E1 : Exa Z h0 a1 "com/example/tidewire/tidewire/rpc/ProviderAddress") (F0 : Fld Z h0 a1 "com/example/tidewire/tidewire/rpc/ProviderAddress" "host" "Ljava/lang/String;" .null) (F1 : Fld Z h0 a1 "com/example/tidewire/tidewire/rpc/ProviderAddress" "port" "I" (.int 0)) (F2 : Fld Z h0 a1 "com/example/tidewire/tidewire/rpc/ProviderAddress" "weight" "I" (.int 0)) (F3 : Fld Z h0 a1 "com/example/tidewire/tidewire/rpc/ProviderAddress" "warmupMillis" "I" (.int 0)) (F4 : Fld Z h0 a1 "com/example/tidewire/tidewire/rpc/ProviderAddress" "startMillis" "J" (.long 0)) :
    own_Met l Z own_y8 prog_29_method_1_code 7 none ws own_Rini h0 #[(.ref a1), (.ref a2), (.int p3), (.int p4), (.int p5), (.long p6)] (own_Qini Z a1 a2 p3 p4 p5 p6 h0 n0) own_Rini.cells own_Rini.slots := by
  refine own_start (plainFor_of_name own_pn4) ?_
  intro p e s m below meth c s₁ X0 hx hZ hby hml hret hlk hown hnm e0
  have hown : s.vm.findClass "com/example/tidewire/tidewire/rpc/ProviderAddress" = some m.cls := hown
  have hml : c.maxLocals = 7 := hml
  have N0 := Fr.nil n0
  refine own_cast (own_efini m a1 a2 p3 p4 p5 p6) ?_
  refine own_s s₁ (mkF m 1 #[rv a1, rv a2, iv p3, iv p4, iv p5, .val (.long p6), v_] [(.ref a1)]) (fun _ k => XS.aloadN X0.here hx rfl (hb hby own_dini_0) rfl rfl k) ?_
  obtain ⟨v1, T1, L1, X1, hQ1, st1⟩ := own_callI X0 hx hZ (y := own_y7) (W := 0) (a := a1) rfl hown (own_h hw 44 rfl) (own_h hw 45 rfl) (own_h hw 47 rfl) (own_h hw 48 rfl) (by decide) (own_rmrec l Z a0 hw [] a1 h0 n0 Z0) (by decide) (by decide) (g := (mkF m 1 #[rv a1, rv a2, iv p3, iv p4, iv p5, .val (.long p6), v_] [(.ref a1)])) rfl (by rw [hml]; rfl) (argsL := []) (rest := []) rfl (lenOf own_pd5 rfl) rfl (by show 2 * 0 + _ ≤ _; exact Nat.le_of_eq rfl) (hb hby own_dini_1) e0 (by decide) (by decide)
  obtain ⟨rfl, Nq1, e1⟩ := hQ1
  have N1 := Fr.app N0 Nq1
  refine own_s T1 (mkF m 4 #[rv a1, rv a2, iv p3, iv p4, iv p5, .val (.long p6), v_] []) st1 ?_
  refine own_s T1 (mkF m 6 #[rv a1, rv a2, iv p3, iv p4, iv p5, .val (.long p6), v_] [(.ref a2), (.ref a1)]) (fun _ k => XS.aloadN X1.here hx rfl (hb hby own_dini_4) rfl rfl (XS.aloadN X1.here hx rfl (hb hby own_dini_5) rfl rfl k)) ?_
  obtain ⟨T2, h2, X2, e2, W2, st2⟩ := putF X1 hx hZ hown (host := "") (Or.inl (own_h hw 50 rfl)) Via.refl e1 F0 E1 (Or.inr ⟨(own_h hw 51 rfl), rfl, hnm⟩) (own_h hw 39 rfl) (ty := (.object "java/lang/String")) (by decide) rfl rfl (g := (mkF m 6 #[rv a1, rv a2, iv p3, iv p4, iv p5, .val (.long p6), v_] [(.ref a2), (.ref a1)])) rfl rfl (hb hby own_dini_6)
  have Fw2 := Fld.same W2 F0
  have f3 := Exa.wr W2 E1
  have f4 := Fld.other W2 F1 (Or.inr (slot_ne (Or.inr (own_h hw 53 rfl)) (Or.inr (own_h hw 51 rfl)) (by decide) (t := .int) (t' := (.object "java/lang/String")) (by decide) (by decide)))
  have f5 := Fld.other W2 F2 (Or.inr (slot_ne (Or.inr (own_h hw 55 rfl)) (Or.inr (own_h hw 51 rfl)) (by decide) (t := .int) (t' := (.object "java/lang/String")) (by decide) (by decide)))
  have f6 := Fld.other W2 F3 (Or.inr (slot_ne (Or.inr (own_h hw 57 rfl)) (Or.inr (own_h hw 51 rfl)) (by decide) (t := .int) (t' := (.object "java/lang/String")) (by decide) (by decide)))
  have f7 := Fld.other W2 F4 (Or.inr (slot_ne (Or.inr (own_h hw 59 rfl)) (Or.inr (own_h hw 51 rfl)) (by decide) (t := .long) (t' := (.object "java/lang/String")) (by decide) (by decide)))
  have K2 : Keep h0 h2 [a1] := (Keep.refl h0 [a1]).wr W2 (Or.inl (List.mem_of_getElem? (i := 0) rfl))
  have Z2 := Nat.le_trans Z0 (Nat.le_of_eq W2.size.symm)
  have N2 := Fr.snoc X2 N1 g_a1
  refine own_s T2 (mkF m 9 #[rv a1, rv a2, iv p3, iv p4, iv p5, .val (.long p6), v_] []) st2 ?_
  refine own_s T2 (mkF m 11 #[rv a1, rv a2, iv p3, iv p4, iv p5, .val (.long p6), v_] [(.int p3), (.ref a1)]) (fun _ k => XS.aloadN X2.here hx rfl (hb hby own_dini_9) rfl rfl (XS.iloadN X2.here hx rfl (hb hby own_dini_10) rfl  k)) ?_
  obtain ⟨T8, h8, X8, e8, W8, st8⟩ := putF X2 hx hZ hown (host := "") (Or.inl (own_h hw 52 rfl)) Via.refl e2 f4 f3 (Or.inr ⟨(own_h hw 53 rfl), rfl, hnm⟩) (own_h hw 39 rfl) (ty := .int) (by decide) rfl rfl (g := (mkF m 11 #[rv a1, rv a2, iv p3, iv p4, iv p5, .val (.long p6), v_] [(.int p3), (.ref a1)])) rfl rfl (hb hby own_dini_11)
  have Fw8 := Fld.same W8 f4
  have f9 := Exa.wr W8 f3
  have f10 := Fld.other W8 Fw2 (Or.inr (slot_ne (Or.inr (own_h hw 51 rfl)) (Or.inr (own_h hw 53 rfl)) (by decide) (t := (.object "java/lang/String")) (t' := .int) (by decide) (by decide)))
  have f11 := Fld.other W8 f5 (Or.inr (slot_ne (Or.inr (own_h hw 55 rfl)) (Or.inr (own_h hw 53 rfl)) (by decide) (t := .int) (t' := .int) (by decide) (by decide)))
  have f12 := Fld.other W8 f6 (Or.inr (slot_ne (Or.inr (own_h hw 57 rfl)) (Or.inr (own_h hw 53 rfl)) (by decide) (t := .int) (t' := .int) (by decide) (by decide)))
  have f13 := Fld.other W8 f7 (Or.inr (slot_ne (Or.inr (own_h hw 59 rfl)) (Or.inr (own_h hw 53 rfl)) (by decide) (t := .long) (t' := .int) (by decide) (by decide)))
  have K8 : Keep h0 h8 [a1] := K2.wr W8 (Or.inl (List.mem_of_getElem? (i := 0) rfl))
  have Z8 := Nat.le_trans Z2 (Nat.le_of_eq W8.size.symm)
  have N8 := Fr.snoc X8 N2 g_a1
  refine own_s T8 (mkF m 14 #[rv a1, rv a2, iv p3, iv p4, iv p5, .val (.long p6), v_] []) st8 ?_
  refine own_s T8 (mkF m 16 #[rv a1, rv a2, iv p3, iv p4, iv p5, .val (.long p6), v_] [(.int p4), (.ref a1)]) (fun _ k => XS.aloadN X8.here hx rfl (hb hby own_dini_14) rfl rfl (XS.iloadN X8.here hx rfl (hb hby own_dini_15) rfl  k)) ?_
  obtain ⟨T14, h14, X14, e14, W14, st14⟩ := putF X8 hx hZ hown (host := "") (Or.inl (own_h hw 54 rfl)) Via.refl e8 f11 f9 (Or.inr ⟨(own_h hw 55 rfl), rfl, hnm⟩) (own_h hw 39 rfl) (ty := .int) (by decide) rfl rfl (g := (mkF m 16 #[rv a1, rv a2, iv p3, iv p4, iv p5, .val (.long p6), v_] [(.int p4), (.ref a1)])) rfl rfl (hb hby own_dini_16)
  have Fw14 := Fld.same W14 f11
  have f15 := Exa.wr W14 f9
  have f16 := Fld.other W14 f10 (Or.inr (slot_ne (Or.inr (own_h hw 51 rfl)) (Or.inr (own_h hw 55 rfl)) (by decide) (t := (.object "java/lang/String")) (t' := .int) (by decide) (by decide)))
  have f17 := Fld.other W14 Fw8 (Or.inr (slot_ne (Or.inr (own_h hw 53 rfl)) (Or.inr (own_h hw 55 rfl)) (by decide) (t := .int) (t' := .int) (by decide) (by decide)))
  have f18 := Fld.other W14 f12 (Or.inr (slot_ne (Or.inr (own_h hw 57 rfl)) (Or.inr (own_h hw 55 rfl)) (by decide) (t := .int) (t' := .int) (by decide) (by decide)))
  have f19 := Fld.other W14 f13 (Or.inr (slot_ne (Or.inr (own_h hw 59 rfl)) (Or.inr (own_h hw 55 rfl)) (by decide) (t := .long) (t' := .int) (by decide) (by decide)))
  have K14 : Keep h0 h14 [a1] := K8.wr W14 (Or.inl (List.mem_of_getElem? (i := 0) rfl))
  have Z14 := Nat.le_trans Z8 (Nat.le_of_eq W14.size.symm)
  have N14 := Fr.snoc X14 N8 g_a1
  refine own_s T14 (mkF m 19 #[rv a1, rv a2, iv p3, iv p4, iv p5, .val (.long p6), v_] []) st14 ?_
  refine own_s T14 (mkF m 22 #[rv a1, rv a2, iv p3, iv p4, iv p5, .val (.long p6), v_] [(.int p5), (.ref a1)]) (fun _ k => XS.aloadN X14.here hx rfl (hb hby own_dini_19) rfl rfl (XS.iload X14.here hx rfl (hb hby own_dini_20) rfl  k)) ?_
  obtain ⟨T20, h20, X20, e20, W20, st20⟩ := putF X14 hx hZ hown (host := "") (Or.inl (own_h hw 56 rfl)) Via.refl e14 f18 f15 (Or.inr ⟨(own_h hw 57 rfl), rfl, hnm⟩) (own_h hw 39 rfl) (ty := .int) (by decide) rfl rfl (g := (mkF m 22 #[rv a1, rv a2, iv p3, iv p4, iv p5, .val (.long p6), v_] [(.int p5), (.ref a1)])) rfl rfl (hb hby own_dini_22)
  have Fw20 := Fld.same W20 f18
  have f21 := Exa.wr W20 f15
  have f22 := Fld.other W20 f16 (Or.inr (slot_ne (Or.inr (own_h hw 51 rfl)) (Or.inr (own_h hw 57 rfl)) (by decide) (t := (.object "java/lang/String")) (t' := .int) (by decide) (by decide)))
  have f23 := Fld.other W20 f17 (Or.inr (slot_ne (Or.inr (own_h hw 53 rfl)) (Or.inr (own_h hw 57 rfl)) (by decide) (t := .int) (t' := .int) (by decide) (by decide)))
  have f24 := Fld.other W20 Fw14 (Or.inr (slot_ne (Or.inr (own_h hw 55 rfl)) (Or.inr (own_h hw 57 rfl)) (by decide) (t := .int) (t' := .int) (by decide) (by decide)))
  have f25 := Fld.other W20 f19 (Or.inr (slot_ne (Or.inr (own_h hw 59 rfl)) (Or.inr (own_h hw 57 rfl)) (by decide) (t := .long) (t' := .int) (by decide) (by decide)))
  have K20 : Keep h0 h20 [a1] := K14.wr W20 (Or.inl (List.mem_of_getElem? (i := 0) rfl))
  have Z20 := Nat.le_trans Z14 (Nat.le_of_eq W20.size.symm)
  have N20 := Fr.snoc X20 N14 g_a1
  refine own_s T20 (mkF m 25 #[rv a1, rv a2, iv p3, iv p4, iv p5, .val (.long p6), v_] []) st20 ?_
  refine own_s T20 (mkF m 28 #[rv a1, rv a2, iv p3, iv p4, iv p5, .val (.long p6), v_] [(.long p6), (.ref a1)]) (fun _ k => XS.aloadN X20.here hx rfl (hb hby own_dini_25) rfl rfl (XS.lload X20.here hx rfl (hb hby own_dini_26) rfl  k)) ?_
  obtain ⟨T26, h26, X26, e26, W26, st26⟩ := putF X20 hx hZ hown (host := "") (Or.inl (own_h hw 58 rfl)) Via.refl e20 f25 f21 (Or.inr ⟨(own_h hw 59 rfl), rfl, hnm⟩) (own_h hw 39 rfl) (ty := .long) (by decide) rfl rfl (g := (mkF m 28 #[rv a1, rv a2, iv p3, iv p4, iv p5, .val (.long p6), v_] [(.long p6), (.ref a1)])) rfl rfl (hb hby own_dini_28)
  have Fw26 := Fld.same W26 f25
  have f27 := Exa.wr W26 f21
  have f28 := Fld.other W26 f22 (Or.inr (slot_ne (Or.inr (own_h hw 51 rfl)) (Or.inr (own_h hw 59 rfl)) (by decide) (t := (.object "java/lang/String")) (t' := .long) (by decide) (by decide)))
  have f29 := Fld.other W26 f23 (Or.inr (slot_ne (Or.inr (own_h hw 53 rfl)) (Or.inr (own_h hw 59 rfl)) (by decide) (t := .int) (t' := .long) (by decide) (by decide)))
  have f30 := Fld.other W26 f24 (Or.inr (slot_ne (Or.inr (own_h hw 55 rfl)) (Or.inr (own_h hw 59 rfl)) (by decide) (t := .int) (t' := .long) (by decide) (by decide)))
  have f31 := Fld.other W26 Fw20 (Or.inr (slot_ne (Or.inr (own_h hw 57 rfl)) (Or.inr (own_h hw 59 rfl)) (by decide) (t := .int) (t' := .long) (by decide) (by decide)))
  have K26 : Keep h0 h26 [a1] := K20.wr W26 (Or.inl (List.mem_of_getElem? (i := 0) rfl))
  have Z26 := Nat.le_trans Z20 (Nat.le_of_eq W26.size.symm)
  have N26 := Fr.snoc X26 N20 g_a1
  refine own_s T26 (mkF m 31 #[rv a1, rv a2, iv p3, iv p4, iv p5, .val (.long p6), v_] []) st26 ?_
  exact own_finV X26 hx hret (hb hby own_dini_31) (own_end (Qv := (own_Qini Z a1 a2 p3 p4 p5 p6 h0 n0)) X26 (fun _ => rfl) hlk (by decide) (by decide) e26 ⟨rfl, N26, K26, f27, f28, f29, f30, f31, Fw26⟩)
theorem own_pd6 : parseMethodDescriptor "(Ljava/lang/String;IIIJ)V" = some ⟨[(.object "java/lang/String"), .int, .int, .int, .long], none⟩ := by decide +kernel
abbrev own_y9 : MethodName := ⟨"com/example/tidewire/tidewire/rpc/ProviderAddress", "of", "(Ljava/lang/String;I)Lcom/example/tidewire/tidewire/rpc/ProviderAddress;"⟩
theorem own_dof_0 : decode prog_29_method_2_code 0 = .ok (.new 8, 3) := by decide +kernel
theorem own_dof_3 : decode prog_29_method_2_code 3 = .ok (.dup, 1) := by decide +kernel
theorem own_dof_4 : decode prog_29_method_2_code 4 = .ok (.aload_n 0, 1) := by decide +kernel
theorem own_dof_5 : decode prog_29_method_2_code 5 = .ok (.iload_n 1, 1) := by decide +kernel
theorem own_dof_6 : decode prog_29_method_2_code 6 = .ok (.bipush 100, 2) := by decide +kernel
theorem own_dof_8 : decode prog_29_method_2_code 8 = .ok (.ldc 27, 2) := by decide +kernel
theorem own_dof_10 : decode prog_29_method_2_code 10 = .ok (.lconst 0, 1) := by decide +kernel
theorem own_dof_11 : decode prog_29_method_2_code 11 = .ok (.invokespecial 28, 3) := by decide +kernel
theorem own_dof_14 : decode prog_29_method_2_code 14 = .ok (.areturn, 1) := by decide +kernel
theorem own_efof (m : MethodId) (x0 : Addr) (x1 : Int32) : entryFrame m #[(.ref x0), (.int x1)] 2 = mkF m 0 #[rv x0, iv x1] [] := by first | (simp [entryFrame, mkF, argsToLocals, Value.category]; done) | rfl
def own_Qof (Z : State) (a1 : Addr) (p2 : Int32) (h0 : Heap) (n0 : Nat) : Option Value → Heap → List Loc → Prop := fun v h L => (∃ a, v = some (.ref a) ∧ n0 ≤ a ∧ Exa Z h a "com/example/tidewire/tidewire/rpc/ProviderAddress" ∧ Fld Z h a "com/example/tidewire/tidewire/rpc/ProviderAddress" "host" "Ljava/lang/String;" (.ref a1) ∧ Fld Z h a "com/example/tidewire/tidewire/rpc/ProviderAddress" "port" "I" (.int p2) ∧ Fld Z h a "com/example/tidewire/tidewire/rpc/ProviderAddress" "weight" "I" (.int 100) ∧ Fld Z h a "com/example/tidewire/tidewire/rpc/ProviderAddress" "warmupMillis" "I" (.int 600000) ∧ Fld Z h a "com/example/tidewire/tidewire/rpc/ProviderAddress" "startMillis" "J" (.long 0)) ∧ Fr n0 L ∧ Keep h0 h []
def own_Rof : Room := { frames := 3, cells := 1, slots := 5, locals := 43 }
set_option maxRecDepth 65536 in
set_option maxHeartbeats 40000000 in
theorem own_rmof (l : Launch) (Z : State) (a0 : Array Value) (hw : ∀ d ∈ tables_1, d.before a0 Z = true) (ws : List Jvm.Cond) (a1 : Addr) (p2 : Int32) (h0 : Heap) (n0 : Nat) (Z0 : n0 ≤ h0.size) :
    own_Met l Z own_y9 prog_29_method_2_code 2 (some (.object "com/example/tidewire/tidewire/rpc/ProviderAddress")) ws own_Rof h0 #[(.ref a1), (.int p2)] (own_Qof Z a1 p2 h0 n0) own_Rof.cells own_Rof.slots := by
  refine own_start (plainFor_of_name own_pn4) ?_
  intro p e s m below meth c s₁ X0 hx hZ hby hml hret hlk hown hnm e0
  have hown : s.vm.findClass "com/example/tidewire/tidewire/rpc/ProviderAddress" = some m.cls := hown
  have hml : c.maxLocals = 2 := hml
  have N0 := Fr.nil n0
  refine own_cast (own_efof m a1 p2) ?_
  obtain ⟨T1, h1, X1, e1, E1, A1, D1, -, st1⟩ := newO X0 hx hZ hown (own_h hw 38 rfl) (own_h hw 39 rfl) (own_h hw 36 rfl) e0 (g := (mkF m 0 #[rv a1, iv p2] [])) rfl (hb hby own_dof_0) (by decide) (by decide)
  obtain ⟨b1, g1⟩ : ∃ z, z = h0.size := ⟨_, rfl⟩
  have g_b1 : n0 ≤ b1 := Nat.le_trans Z0 (Nat.le_of_eq g1.symm)
  have sz_b1 : h0.size ≤ b1 := Nat.le_trans (Keep.refl h0 []).1 (Nat.le_of_eq g1.symm)
  rw [← g1] at A1 D1 st1
  have K1 : Keep h0 h1 [] := (Keep.refl h0 []).ext E1
  have Z1 := Nat.le_trans Z0 E1.1
  have f2 : Fld Z h1 b1 "com/example/tidewire/tidewire/rpc/ProviderAddress" "host" "Ljava/lang/String;" .null := D1 (Or.inr (own_h hw 51 rfl)) (ty := (.object "java/lang/String")) (by decide)
  have f3 : Fld Z h1 b1 "com/example/tidewire/tidewire/rpc/ProviderAddress" "port" "I" (.int 0) := D1 (Or.inr (own_h hw 53 rfl)) (ty := .int) (by decide)
  have f4 : Fld Z h1 b1 "com/example/tidewire/tidewire/rpc/ProviderAddress" "weight" "I" (.int 0) := D1 (Or.inr (own_h hw 55 rfl)) (ty := .int) (by decide)
  have f5 : Fld Z h1 b1 "com/example/tidewire/tidewire/rpc/ProviderAddress" "warmupMillis" "I" (.int 0) := D1 (Or.inr (own_h hw 57 rfl)) (ty := .int) (by decide)
  have f6 : Fld Z h1 b1 "com/example/tidewire/tidewire/rpc/ProviderAddress" "startMillis" "J" (.long 0) := D1 (Or.inr (own_h hw 59 rfl)) (ty := .long) (by decide)
  refine own_s T1 (mkF m 3 #[rv a1, iv p2] [(.ref b1)]) st1 ?_
  refine own_s T1 (mkF m 8 #[rv a1, iv p2] [(.int 100), (.int p2), (.ref a1), (.ref b1), (.ref b1)]) (fun _ k => XS.dup X1.here hx rfl (hb hby own_dof_3) rfl rfl (XS.aloadN X1.here hx rfl (hb hby own_dof_4) rfl rfl (XS.iloadN X1.here hx rfl (hb hby own_dof_5) rfl  (XS.bipush X1.here hx rfl (hb hby own_dof_6) k)))) ?_
  refine own_s T1 (mkF m 10 #[rv a1, iv p2] [(.int 600000), (.int 100), (.int p2), (.ref a1), (.ref b1), (.ref b1)]) (X1.ldcInt hx hown (mvT hZ (own_h hw 40 rfl)) (g := (mkF m 8 #[rv a1, iv p2] [(.int 100), (.int p2), (.ref a1), (.ref b1), (.ref b1)])) rfl (hb hby own_dof_8)) ?_
  refine own_s T1 (mkF m 11 #[rv a1, iv p2] [(.long 0), (.int 600000), (.int 100), (.int p2), (.ref a1), (.ref b1), (.ref b1)]) (fun _ k => XS.lconst X1.here hx rfl (hb hby own_dof_10) k) ?_
  obtain ⟨v7, T7, L7, X7, hQ7, st7⟩ := own_callI X1 hx hZ (y := own_y8) (W := 1) (a := b1) rfl hown (own_h hw 41 rfl) (own_h hw 42 rfl) (own_h hw 36 rfl) (own_h hw 43 rfl) (by decide) (own_rmini l Z a0 hw [] b1 a1 p2 (100 : Int32) (600000 : Int32) (0 : Int64) h1 n0 Z1 g_b1 A1 f2 f3 f4 f5 f6) (by decide) (by decide) (g := (mkF m 11 #[rv a1, iv p2] [(.long 0), (.int 600000), (.int 100), (.int p2), (.ref a1), (.ref b1), (.ref b1)])) rfl (by rw [hml]; rfl) (argsL := [(.ref a1), (.int p2), (.int 100), (.int 600000), (.long 0)]) (rest := [(.ref b1)]) rfl (lenOf own_pd6 rfl) rfl (by show 2 * 0 + _ ≤ _; exact Nat.le_of_eq rfl) (hb hby own_dof_11) e1 (by decide) (by decide)
  obtain ⟨rfl, Nq7, Kq7, Eq7, Fq7_0, Fq7_1, Fq7_2, Fq7_3, Fq7_4⟩ := hQ7
  have N7 := Fr.app N0 Nq7
  have K7 : Keep h0 T7.heap [] := K1.trans Kq7 (allS (Or.inr sz_b1) all0)
  have Z7 := Nat.le_trans Z1 Kq7.1
  refine own_s T7 (mkF m 14 #[rv a1, iv p2] [(.ref b1)]) st7 ?_
  exact own_finA X7 hx hret rfl rfl (hb hby own_dof_14) (own_end (Qv := (own_Qof Z a1 p2 h0 n0)) X7 (own_some hret) hlk (by decide) (by decide) rfl ⟨⟨_, rfl, g_b1, Eq7, Fq7_0, Fq7_1, Fq7_2, Fq7_3, Fq7_4⟩, N7, K7⟩)
abbrev own_y10 : MethodName := ⟨"com/example/tidewire/tidewire/rpc/ProviderAddress", "host", "()Ljava/lang/String;"⟩
theorem own_dg_host_0 : decode prog_29_method_13_code 0 = .ok (.aload_n 0, 1) := by decide +kernel
theorem own_dg_host_1 : decode prog_29_method_13_code 1 = .ok (.getfield 7, 3) := by decide +kernel
theorem own_dg_host_4 : decode prog_29_method_13_code 4 = .ok (.areturn, 1) := by decide +kernel
theorem own_efg_host (m : MethodId) (x0 : Addr) : entryFrame m #[(.ref x0)] 1 = mkF m 0 #[rv x0] [] := by first | (simp [entryFrame, mkF, argsToLocals, Value.category]; done) | rfl
def own_Qg_host (Z : State) (a1 : Addr) (w : Addr) (h0 : Heap) (n0 : Nat) : Option Value → Heap → List Loc → Prop := fun v h L => v = some (.ref w) ∧ Fr n0 L ∧ h = h0
def own_Rg_host : Room := { frames := 0, cells := 0, slots := 0, locals := 0 }
set_option maxRecDepth 65536 in
set_option maxHeartbeats 40000000 in
theorem own_rmg_host (l : Launch) (Z : State) (a0 : Array Value) (hw : ∀ d ∈ tables_1, d.before a0 Z = true) (ws : List Jvm.Cond) (a1 : Addr) (w : Addr) (h0 : Heap) (n0 : Nat) (Z0 : n0 ≤ h0.size) (F1 : Fld Z h0 a1 "com/example/tidewire/tidewire/rpc/ProviderAddress" "host" "Ljava/lang/String;" (.ref w)) :
    own_Met l Z own_y10 prog_29_method_13_code 1 (some (.object "java/lang/String")) ws own_Rg_host h0 #[(.ref a1)] (own_Qg_host Z a1 w h0 n0) own_Rg_host.cells own_Rg_host.slots := by
  refine own_start (plainFor_of_name own_pn4) ?_
  intro p e s m below meth c s₁ X0 hx hZ hby hml hret hlk hown hnm e0
  have hown : s.vm.findClass "com/example/tidewire/tidewire/rpc/ProviderAddress" = some m.cls := hown
  have hml : c.maxLocals = 1 := hml
  have N0 := Fr.nil n0
  refine own_cast (own_efg_host m a1) ?_
  refine own_s s₁ (mkF m 1 #[rv a1] [(.ref a1)]) (fun _ k => XS.aloadN X0.here hx rfl (hb hby own_dg_host_0) rfl rfl k) ?_
  obtain ⟨T1, X1, e1, st1⟩ := getF X0 hx hZ hown (host := "") (Or.inl (own_h hw 50 rfl)) Via.refl e0 F1 (g := (mkF m 1 #[rv a1] [(.ref a1)])) rfl rfl (hb hby own_dg_host_1)
  refine own_s T1 (mkF m 4 #[rv a1] [(.ref w)]) st1 ?_
  exact own_finA X1 hx hret rfl rfl (hb hby own_dg_host_4) (own_end (Qv := (own_Qg_host Z a1 w h0 n0)) X1 (own_some hret) hlk (by decide) (by decide) e1 ⟨rfl, N0, rfl⟩)
abbrev own_y11 : MethodName := ⟨"com/example/tidewire/tidewire/rpc/ProviderAddress", "port", "()I"⟩
theorem own_dg_port_0 : decode prog_29_method_14_code 0 = .ok (.aload_n 0, 1) := by decide +kernel
theorem own_dg_port_1 : decode prog_29_method_14_code 1 = .ok (.getfield 13, 3) := by decide +kernel
theorem own_dg_port_4 : decode prog_29_method_14_code 4 = .ok (.ireturn, 1) := by decide +kernel
theorem own_efg_port (m : MethodId) (x0 : Addr) : entryFrame m #[(.ref x0)] 1 = mkF m 0 #[rv x0] [] := by first | (simp [entryFrame, mkF, argsToLocals, Value.category]; done) | rfl
def own_Qg_port (Z : State) (a1 : Addr) (w : Int32) (h0 : Heap) (n0 : Nat) : Option Value → Heap → List Loc → Prop := fun v h L => v = some (.int w) ∧ Fr n0 L ∧ h = h0
def own_Rg_port : Room := { frames := 0, cells := 0, slots := 0, locals := 0 }
set_option maxRecDepth 65536 in
set_option maxHeartbeats 40000000 in
theorem own_rmg_port (l : Launch) (Z : State) (a0 : Array Value) (hw : ∀ d ∈ tables_1, d.before a0 Z = true) (ws : List Jvm.Cond) (a1 : Addr) (w : Int32) (h0 : Heap) (n0 : Nat) (Z0 : n0 ≤ h0.size) (F1 : Fld Z h0 a1 "com/example/tidewire/tidewire/rpc/ProviderAddress" "port" "I" (.int w)) :
    own_Met l Z own_y11 prog_29_method_14_code 1 (some .int) ws own_Rg_port h0 #[(.ref a1)] (own_Qg_port Z a1 w h0 n0) own_Rg_port.cells own_Rg_port.slots := by
  refine own_start (plainFor_of_name own_pn4) ?_
  intro p e s m below meth c s₁ X0 hx hZ hby hml hret hlk hown hnm e0
  have hown : s.vm.findClass "com/example/tidewire/tidewire/rpc/ProviderAddress" = some m.cls := hown
  have hml : c.maxLocals = 1 := hml
  have N0 := Fr.nil n0
  refine own_cast (own_efg_port m a1) ?_
  refine own_s s₁ (mkF m 1 #[rv a1] [(.ref a1)]) (fun _ k => XS.aloadN X0.here hx rfl (hb hby own_dg_port_0) rfl rfl k) ?_
  obtain ⟨T1, X1, e1, st1⟩ := getF X0 hx hZ hown (host := "") (Or.inl (own_h hw 52 rfl)) Via.refl e0 F1 (g := (mkF m 1 #[rv a1] [(.ref a1)])) rfl rfl (hb hby own_dg_port_1)
  refine own_s T1 (mkF m 4 #[rv a1] [(.int w)]) st1 ?_
  exact own_finI X1 hx hret (hb hby own_dg_port_4) (own_end (Qv := (own_Qg_port Z a1 w h0 n0)) X1 (own_some hret) hlk (by decide) (by decide) e1 ⟨rfl, N0, rfl⟩)
abbrev own_y12 : MethodName := ⟨"com/example/tidewire/tidewire/rpc/ProviderAddress", "weight", "()I"⟩
theorem own_dg_weight_0 : decode prog_29_method_15_code 0 = .ok (.aload_n 0, 1) := by decide +kernel
theorem own_dg_weight_1 : decode prog_29_method_15_code 1 = .ok (.getfield 17, 3) := by decide +kernel
theorem own_dg_weight_4 : decode prog_29_method_15_code 4 = .ok (.ireturn, 1) := by decide +kernel
theorem own_efg_weight (m : MethodId) (x0 : Addr) : entryFrame m #[(.ref x0)] 1 = mkF m 0 #[rv x0] [] := by first | (simp [entryFrame, mkF, argsToLocals, Value.category]; done) | rfl
def own_Qg_weight (Z : State) (a1 : Addr) (w : Int32) (h0 : Heap) (n0 : Nat) : Option Value → Heap → List Loc → Prop := fun v h L => v = some (.int w) ∧ Fr n0 L ∧ h = h0
def own_Rg_weight : Room := { frames := 0, cells := 0, slots := 0, locals := 0 }
set_option maxRecDepth 65536 in
set_option maxHeartbeats 40000000 in
theorem own_rmg_weight (l : Launch) (Z : State) (a0 : Array Value) (hw : ∀ d ∈ tables_1, d.before a0 Z = true) (ws : List Jvm.Cond) (a1 : Addr) (w : Int32) (h0 : Heap) (n0 : Nat) (Z0 : n0 ≤ h0.size) (F1 : Fld Z h0 a1 "com/example/tidewire/tidewire/rpc/ProviderAddress" "weight" "I" (.int w)) :
    own_Met l Z own_y12 prog_29_method_15_code 1 (some .int) ws own_Rg_weight h0 #[(.ref a1)] (own_Qg_weight Z a1 w h0 n0) own_Rg_weight.cells own_Rg_weight.slots := by
  refine own_start (plainFor_of_name own_pn4) ?_
  intro p e s m below meth c s₁ X0 hx hZ hby hml hret hlk hown hnm e0
  have hown : s.vm.findClass "com/example/tidewire/tidewire/rpc/ProviderAddress" = some m.cls := hown
  have hml : c.maxLocals = 1 := hml
  have N0 := Fr.nil n0
  refine own_cast (own_efg_weight m a1) ?_
  refine own_s s₁ (mkF m 1 #[rv a1] [(.ref a1)]) (fun _ k => XS.aloadN X0.here hx rfl (hb hby own_dg_weight_0) rfl rfl k) ?_
  obtain ⟨T1, X1, e1, st1⟩ := getF X0 hx hZ hown (host := "") (Or.inl (own_h hw 54 rfl)) Via.refl e0 F1 (g := (mkF m 1 #[rv a1] [(.ref a1)])) rfl rfl (hb hby own_dg_weight_1)
  refine own_s T1 (mkF m 4 #[rv a1] [(.int w)]) st1 ?_
  exact own_finI X1 hx hret (hb hby own_dg_weight_4) (own_end (Qv := (own_Qg_weight Z a1 w h0 n0)) X1 (own_some hret) hlk (by decide) (by decide) e1 ⟨rfl, N0, rfl⟩)
abbrev own_y13 : MethodName := ⟨"com/example/tidewire/tidewire/rpc/ProviderAddress", "warmupMillis", "()I"⟩
theorem own_dg_warmupMillis_0 : decode prog_29_method_16_code 0 = .ok (.aload_n 0, 1) := by decide +kernel
theorem own_dg_warmupMillis_1 : decode prog_29_method_16_code 1 = .ok (.getfield 20, 3) := by decide +kernel
theorem own_dg_warmupMillis_4 : decode prog_29_method_16_code 4 = .ok (.ireturn, 1) := by decide +kernel
theorem own_efg_warmupMillis (m : MethodId) (x0 : Addr) : entryFrame m #[(.ref x0)] 1 = mkF m 0 #[rv x0] [] := by first | (simp [entryFrame, mkF, argsToLocals, Value.category]; done) | rfl
def own_Qg_warmupMillis (Z : State) (a1 : Addr) (w : Int32) (h0 : Heap) (n0 : Nat) : Option Value → Heap → List Loc → Prop := fun v h L => v = some (.int w) ∧ Fr n0 L ∧ h = h0
def own_Rg_warmupMillis : Room := { frames := 0, cells := 0, slots := 0, locals := 0 }
set_option maxRecDepth 65536 in
set_option maxHeartbeats 40000000 in
theorem own_rmg_warmupMillis (l : Launch) (Z : State) (a0 : Array Value) (hw : ∀ d ∈ tables_1, d.before a0 Z = true) (ws : List Jvm.Cond) (a1 : Addr) (w : Int32) (h0 : Heap) (n0 : Nat) (Z0 : n0 ≤ h0.size) (F1 : Fld Z h0 a1 "com/example/tidewire/tidewire/rpc/ProviderAddress" "warmupMillis" "I" (.int w)) :
    own_Met l Z own_y13 prog_29_method_16_code 1 (some .int) ws own_Rg_warmupMillis h0 #[(.ref a1)] (own_Qg_warmupMillis Z a1 w h0 n0) own_Rg_warmupMillis.cells own_Rg_warmupMillis.slots := by
  refine own_start (plainFor_of_name own_pn4) ?_
  intro p e s m below meth c s₁ X0 hx hZ hby hml hret hlk hown hnm e0
  have hown : s.vm.findClass "com/example/tidewire/tidewire/rpc/ProviderAddress" = some m.cls := hown
  have hml : c.maxLocals = 1 := hml
  have N0 := Fr.nil n0
  refine own_cast (own_efg_warmupMillis m a1) ?_
  refine own_s s₁ (mkF m 1 #[rv a1] [(.ref a1)]) (fun _ k => XS.aloadN X0.here hx rfl (hb hby own_dg_warmupMillis_0) rfl rfl k) ?_
  obtain ⟨T1, X1, e1, st1⟩ := getF X0 hx hZ hown (host := "") (Or.inl (own_h hw 56 rfl)) Via.refl e0 F1 (g := (mkF m 1 #[rv a1] [(.ref a1)])) rfl rfl (hb hby own_dg_warmupMillis_1)
  refine own_s T1 (mkF m 4 #[rv a1] [(.int w)]) st1 ?_
  exact own_finI X1 hx hret (hb hby own_dg_warmupMillis_4) (own_end (Qv := (own_Qg_warmupMillis Z a1 w h0 n0)) X1 (own_some hret) hlk (by decide) (by decide) e1 ⟨rfl, N0, rfl⟩)
abbrev own_y14 : MethodName := ⟨"com/example/tidewire/tidewire/rpc/ProviderAddress", "startMillis", "()J"⟩
theorem own_dg_startMillis_0 : decode prog_29_method_17_code 0 = .ok (.aload_n 0, 1) := by decide +kernel
theorem own_dg_startMillis_1 : decode prog_29_method_17_code 1 = .ok (.getfield 23, 3) := by decide +kernel
theorem own_dg_startMillis_4 : decode prog_29_method_17_code 4 = .ok (.lreturn, 1) := by decide +kernel
theorem own_efg_startMillis (m : MethodId) (x0 : Addr) : entryFrame m #[(.ref x0)] 1 = mkF m 0 #[rv x0] [] := by first | (simp [entryFrame, mkF, argsToLocals, Value.category]; done) | rfl
def own_Qg_startMillis (Z : State) (a1 : Addr) (w : Int64) (h0 : Heap) (n0 : Nat) : Option Value → Heap → List Loc → Prop := fun v h L => v = some (.long w) ∧ Fr n0 L ∧ h = h0
def own_Rg_startMillis : Room := { frames := 0, cells := 0, slots := 0, locals := 0 }
set_option maxRecDepth 65536 in
set_option maxHeartbeats 40000000 in
theorem own_rmg_startMillis (l : Launch) (Z : State) (a0 : Array Value) (hw : ∀ d ∈ tables_1, d.before a0 Z = true) (ws : List Jvm.Cond) (a1 : Addr) (w : Int64) (h0 : Heap) (n0 : Nat) (Z0 : n0 ≤ h0.size) (F1 : Fld Z h0 a1 "com/example/tidewire/tidewire/rpc/ProviderAddress" "startMillis" "J" (.long w)) :
    own_Met l Z own_y14 prog_29_method_17_code 1 (some .long) ws own_Rg_startMillis h0 #[(.ref a1)] (own_Qg_startMillis Z a1 w h0 n0) own_Rg_startMillis.cells own_Rg_startMillis.slots := by
  refine own_start (plainFor_of_name own_pn4) ?_
  intro p e s m below meth c s₁ X0 hx hZ hby hml hret hlk hown hnm e0
  have hown : s.vm.findClass "com/example/tidewire/tidewire/rpc/ProviderAddress" = some m.cls := hown
  have hml : c.maxLocals = 1 := hml
  have N0 := Fr.nil n0
  refine own_cast (own_efg_startMillis m a1) ?_
  refine own_s s₁ (mkF m 1 #[rv a1] [(.ref a1)]) (fun _ k => XS.aloadN X0.here hx rfl (hb hby own_dg_startMillis_0) rfl rfl k) ?_
  obtain ⟨T1, X1, e1, st1⟩ := getF X0 hx hZ hown (host := "") (Or.inl (own_h hw 58 rfl)) Via.refl e0 F1 (g := (mkF m 1 #[rv a1] [(.ref a1)])) rfl rfl (hb hby own_dg_startMillis_1)
  refine own_s T1 (mkF m 4 #[rv a1] [(.long w)]) st1 ?_
  exact own_finL X1 hx hret (hb hby own_dg_startMillis_4) (own_end (Qv := (own_Qg_startMillis Z a1 w h0 n0)) X1 (own_some hret) hlk (by decide) (by decide) e1 ⟨rfl, N0, rfl⟩)
theorem own_pd7 : parseMethodDescriptor "(JJ)J" = some ⟨[.long, .long], some .long⟩ := by decide +kernel
abbrev own_y15 : MethodName := ⟨"com/example/tidewire/tidewire/rpc/ProviderAddress", "weightAt", "(J)I"⟩
theorem own_dwat_0 : decode prog_29_method_6_code 0 = .ok (.lconst 0, 1) := by decide +kernel
theorem own_dwat_1 : decode prog_29_method_6_code 1 = .ok (.lload_n 1, 1) := by decide +kernel
theorem own_dwat_2 : decode prog_29_method_6_code 2 = .ok (.aload_n 0, 1) := by decide +kernel
theorem own_dwat_3 : decode prog_29_method_6_code 3 = .ok (.getfield 23, 3) := by decide +kernel
theorem own_dwat_6 : decode prog_29_method_6_code 6 = .ok (.lsub, 1) := by decide +kernel
theorem own_dwat_7 : decode prog_29_method_6_code 7 = .ok (.invokestatic 146, 3) := by decide +kernel
theorem own_dwat_10 : decode prog_29_method_6_code 10 = .ok (.lstore_n 3, 1) := by decide +kernel
theorem own_dwat_11 : decode prog_29_method_6_code 11 = .ok (.lload_n 3, 1) := by decide +kernel
theorem own_dwat_12 : decode prog_29_method_6_code 12 = .ok (.aload_n 0, 1) := by decide +kernel
theorem own_dwat_13 : decode prog_29_method_6_code 13 = .ok (.getfield 20, 3) := by decide +kernel
theorem own_dwat_16 : decode prog_29_method_6_code 16 = .ok (.i2l, 1) := by decide +kernel
theorem own_dwat_17 : decode prog_29_method_6_code 17 = .ok (.lcmp, 1) := by decide +kernel
theorem own_dwat_18 : decode prog_29_method_6_code 18 = .ok (.ifCond .lt 8, 3) := by decide +kernel
theorem own_dwat_21 : decode prog_29_method_6_code 21 = .ok (.aload_n 0, 1) := by decide +kernel
theorem own_dwat_22 : decode prog_29_method_6_code 22 = .ok (.getfield 17, 3) := by decide +kernel
theorem own_dwat_25 : decode prog_29_method_6_code 25 = .ok (.ireturn, 1) := by decide +kernel
theorem own_dwat_26 : decode prog_29_method_6_code 26 = .ok (.lconst 1, 1) := by decide +kernel
theorem own_dwat_27 : decode prog_29_method_6_code 27 = .ok (.lload_n 3, 1) := by decide +kernel
theorem own_dwat_28 : decode prog_29_method_6_code 28 = .ok (.aload_n 0, 1) := by decide +kernel
theorem own_dwat_29 : decode prog_29_method_6_code 29 = .ok (.getfield 17, 3) := by decide +kernel
theorem own_dwat_32 : decode prog_29_method_6_code 32 = .ok (.i2l, 1) := by decide +kernel
theorem own_dwat_33 : decode prog_29_method_6_code 33 = .ok (.lmul, 1) := by decide +kernel
theorem own_dwat_34 : decode prog_29_method_6_code 34 = .ok (.aload_n 0, 1) := by decide +kernel
theorem own_dwat_35 : decode prog_29_method_6_code 35 = .ok (.getfield 20, 3) := by decide +kernel
theorem own_dwat_38 : decode prog_29_method_6_code 38 = .ok (.i2l, 1) := by decide +kernel
theorem own_dwat_39 : decode prog_29_method_6_code 39 = .ok (.ldiv, 1) := by decide +kernel
theorem own_dwat_40 : decode prog_29_method_6_code 40 = .ok (.invokestatic 146, 3) := by decide +kernel
theorem own_dwat_43 : decode prog_29_method_6_code 43 = .ok (.l2i, 1) := by decide +kernel
theorem own_dwat_44 : decode prog_29_method_6_code 44 = .ok (.ireturn, 1) := by decide +kernel
theorem own_efwat (m : MethodId) (x0 : Addr) (x1 : Int64) : entryFrame m #[(.ref x0), (.long x1)] 5 = mkF m 0 #[rv x0, .val (.long x1), v_, u_, u_] [] := by first | (simp [entryFrame, mkF, argsToLocals, Value.category]; done) | rfl
def own_Qwat (Z : State) (a1 : Addr) (q2 : Int64) (w : Int32) (mm : Int32) (sm : Int64) (h0 : Heap) (n0 : Nat) : Option Value → Heap → List Loc → Prop := fun v h L => v = some (.int (own_wat w mm sm q2)) ∧ Fr n0 L ∧ h = h0
def own_Rwat : Room := { frames := 1, cells := 0, slots := 0, locals := 15 }
set_option maxRecDepth 65536 in
set_option maxHeartbeats 40000000 in
theorem own_rmwat (l : Launch) (Z : State) (a0 : Array Value) (hw : ∀ d ∈ tables_1, d.before a0 Z = true) (ws : List Jvm.Cond) (a1 : Addr) (q2 : Int64) (w : Int32) (mm : Int32) (sm : Int64) (h0 : Heap) (n0 : Nat) (Z0 : n0 ≤ h0.size) (F1 : Fld Z h0 a1 "com/example/tidewire/tidewire/rpc/ProviderAddress" "weight" "I" (.int w)) (F2 : Fld Z h0 a1 "com/example/tidewire/tidewire/rpc/ProviderAddress" "warmupMillis" "I" (.int mm)) (F3 : Fld Z h0 a1 "com/example/tidewire/tidewire/rpc/ProviderAddress" "startMillis" "J" (.long sm)) :
    own_Met l Z own_y15 prog_29_method_6_code 5 (some .int) ws own_Rwat h0 #[(.ref a1), (.long q2)] (own_Qwat Z a1 q2 w mm sm h0 n0) own_Rwat.cells own_Rwat.slots := by
  refine own_start (plainFor_of_name own_pn4) ?_
  intro p e s m below meth c s₁ X0 hx hZ hby hml hret hlk hown hnm e0
  have hown : s.vm.findClass "com/example/tidewire/tidewire/rpc/ProviderAddress" = some m.cls := hown
  have hml : c.maxLocals = 5 := hml
  have N0 := Fr.nil n0
  refine own_cast (own_efwat m a1 q2) ?_
  refine own_s s₁ (mkF m 3 #[rv a1, .val (.long q2), v_, u_, u_] [(.ref a1), (.long q2), (.long 0)]) (fun _ k => XS.lconst X0.here hx rfl (hb hby own_dwat_0) (XS.lloadN X0.here hx rfl (hb hby own_dwat_1) rfl  (XS.aloadN X0.here hx rfl (hb hby own_dwat_2) rfl rfl k))) ?_
  obtain ⟨T1, X1, e1, st1⟩ := getF X0 hx hZ hown (host := "") (Or.inl (own_h hw 58 rfl)) Via.refl e0 F3 (g := (mkF m 3 #[rv a1, .val (.long q2), v_, u_, u_] [(.ref a1), (.long q2), (.long 0)])) rfl rfl (hb hby own_dwat_3)
  refine own_s T1 (mkF m 6 #[rv a1, .val (.long q2), v_, u_, u_] [(.long sm), (.long q2), (.long 0)]) st1 ?_
  refine own_s T1 (mkF m 7 #[rv a1, .val (.long q2), v_, u_, u_] [(.long (q2 - sm)), (.long 0)]) (fun _ k => XS.lsub X1.here hx rfl (hb hby own_dwat_6) rfl k) ?_
  obtain ⟨v2, T2, L2, X2, hQ2, st2⟩ := own_callS X1 hx hZ (y := own_y6) (W := 0) hown (own_h hw 98 rfl) (own_h hw 99 rfl) (own_h hw 100 rfl) (own_h hw 101 rfl) (by decide) (own_rmml l Z a0 hw [] (0 : Int64) (q2 - sm) h0 n0 Z0) (by decide) (by decide) (g := (mkF m 7 #[rv a1, .val (.long q2), v_, u_, u_] [(.long (q2 - sm)), (.long 0)])) rfl (by rw [hml]; rfl) (argsL := [(.long 0), (.long (q2 - sm))]) (rest := []) rfl (lenOf own_pd7 rfl) rfl (by show 2 * 0 + _ ≤ _; exact Nat.le_of_eq rfl) (hb hby own_dwat_7) e1 (by decide) (by decide)
  obtain ⟨rfl, Nq2, e2⟩ := hQ2
  have N2 := Fr.app N0 Nq2
  refine own_s T2 (mkF m 10 #[rv a1, .val (.long q2), v_, u_, u_] [(.long (own_mxL (0 : Int64) (q2 - sm)))]) st2 ?_
  refine own_s T2 (mkF m 13 #[rv a1, .val (.long q2), v_, .val (.long (own_mxL (0 : Int64) (q2 - sm))), v_] [(.ref a1), (.long (own_mxL (0 : Int64) (q2 - sm)))]) (fun _ k => XS.lstoreN X2.here hx rfl (hb hby own_dwat_10) rfl (l' := #[rv a1, .val (.long q2), v_, .val (.long (own_mxL (0 : Int64) (q2 - sm))), v_]) rfl (XS.lloadN X2.here hx rfl (hb hby own_dwat_11) rfl  (XS.aloadN X2.here hx rfl (hb hby own_dwat_12) rfl rfl k))) ?_
  obtain ⟨T3, X3, e3, st3⟩ := getF X2 hx hZ hown (host := "") (Or.inl (own_h hw 56 rfl)) Via.refl e2 F2 (g := (mkF m 13 #[rv a1, .val (.long q2), v_, .val (.long (own_mxL (0 : Int64) (q2 - sm))), v_] [(.ref a1), (.long (own_mxL (0 : Int64) (q2 - sm)))])) rfl rfl (hb hby own_dwat_13)
  refine own_s T3 (mkF m 16 #[rv a1, .val (.long q2), v_, .val (.long (own_mxL (0 : Int64) (q2 - sm))), v_] [(.int mm), (.long (own_mxL (0 : Int64) (q2 - sm)))]) st3 ?_
  refine own_s T3 (mkF m 18 #[rv a1, .val (.long q2), v_, .val (.long (own_mxL (0 : Int64) (q2 - sm))), v_] [(.int (lcmpW (own_mxL (0 : Int64) (q2 - sm)) (mm.toInt64)))]) (fun _ k => XS.i2l X3.here hx rfl (hb hby own_dwat_16) rfl (XS.lcmp X3.here hx rfl (hb hby own_dwat_17) rfl k)) ?_
  by_cases c18 : (own_mxL (0 : Int64) (q2 - sm)) < (mm.toInt64)
  · refine own_s T3 (mkF m 29 #[rv a1, .val (.long q2), v_, .val (.long (own_mxL (0 : Int64) (q2 - sm))), v_] [(.ref a1), (.long (own_mxL (0 : Int64) (q2 - sm))), (.long 1)]) (fun _ k => XS.ifYes X3.here hx rfl (pc0 := 18) (pc' := 26) rfl (hb hby own_dwat_18) rfl ((if0 _ _).trans (tlt (own_lclt c18)).1) (by decide) (by decide) (XS.lconst X3.here hx rfl (hb hby own_dwat_26) (XS.lloadN X3.here hx rfl (hb hby own_dwat_27) rfl  (XS.aloadN X3.here hx rfl (hb hby own_dwat_28) rfl rfl k)))) ?_
    obtain ⟨T4, X4, e4, st4⟩ := getF X3 hx hZ hown (host := "") (Or.inl (own_h hw 54 rfl)) Via.refl e3 F1 (g := (mkF m 29 #[rv a1, .val (.long q2), v_, .val (.long (own_mxL (0 : Int64) (q2 - sm))), v_] [(.ref a1), (.long (own_mxL (0 : Int64) (q2 - sm))), (.long 1)])) rfl rfl (hb hby own_dwat_29)
    refine own_s T4 (mkF m 32 #[rv a1, .val (.long q2), v_, .val (.long (own_mxL (0 : Int64) (q2 - sm))), v_] [(.int w), (.long (own_mxL (0 : Int64) (q2 - sm))), (.long 1)]) st4 ?_
    refine own_s T4 (mkF m 35 #[rv a1, .val (.long q2), v_, .val (.long (own_mxL (0 : Int64) (q2 - sm))), v_] [(.ref a1), (.long ((own_mxL (0 : Int64) (q2 - sm)) * (w.toInt64))), (.long 1)]) (fun _ k => XS.i2l X4.here hx rfl (hb hby own_dwat_32) rfl (XS.lmul X4.here hx rfl (hb hby own_dwat_33) rfl (XS.aloadN X4.here hx rfl (hb hby own_dwat_34) rfl rfl k))) ?_
    obtain ⟨T5, X5, e5, st5⟩ := getF X4 hx hZ hown (host := "") (Or.inl (own_h hw 56 rfl)) Via.refl e4 F2 (g := (mkF m 35 #[rv a1, .val (.long q2), v_, .val (.long (own_mxL (0 : Int64) (q2 - sm))), v_] [(.ref a1), (.long ((own_mxL (0 : Int64) (q2 - sm)) * (w.toInt64))), (.long 1)])) rfl rfl (hb hby own_dwat_35)
    refine own_s T5 (mkF m 38 #[rv a1, .val (.long q2), v_, .val (.long (own_mxL (0 : Int64) (q2 - sm))), v_] [(.int mm), (.long ((own_mxL (0 : Int64) (q2 - sm)) * (w.toInt64))), (.long 1)]) st5 ?_
    refine own_s T5 (mkF m 40 #[rv a1, .val (.long q2), v_, .val (.long (own_mxL (0 : Int64) (q2 - sm))), v_] [(.long (((own_mxL (0 : Int64) (q2 - sm)) * (w.toInt64)) / (mm.toInt64))), (.long 1)]) (fun _ k => XS.i2l X5.here hx rfl (hb hby own_dwat_38) rfl (XS.ldiv X5.here hx rfl (hb hby own_dwat_39) rfl (own_mnz c18) k)) ?_
    obtain ⟨v6, T6, L6, X6, hQ6, st6⟩ := own_callS X5 hx hZ (y := own_y6) (W := 0) hown (own_h hw 98 rfl) (own_h hw 99 rfl) (own_h hw 100 rfl) (own_h hw 101 rfl) (by decide) (own_rmml l Z a0 hw [] (1 : Int64) (((own_mxL (0 : Int64) (q2 - sm)) * (w.toInt64)) / (mm.toInt64)) h0 n0 Z0) (by decide) (by decide) (g := (mkF m 40 #[rv a1, .val (.long q2), v_, .val (.long (own_mxL (0 : Int64) (q2 - sm))), v_] [(.long (((own_mxL (0 : Int64) (q2 - sm)) * (w.toInt64)) / (mm.toInt64))), (.long 1)])) rfl (by rw [hml]; rfl) (argsL := [(.long 1), (.long (((own_mxL (0 : Int64) (q2 - sm)) * (w.toInt64)) / (mm.toInt64)))]) (rest := []) rfl (lenOf own_pd7 rfl) rfl (by show 2 * 0 + _ ≤ _; exact Nat.le_of_eq rfl) (hb hby own_dwat_40) e5 (by decide) (by decide)
    obtain ⟨rfl, Nq6, e6⟩ := hQ6
    have N6 := Fr.app N2 Nq6
    refine own_s T6 (mkF m 43 #[rv a1, .val (.long q2), v_, .val (.long (own_mxL (0 : Int64) (q2 - sm))), v_] [(.long (own_mxL (1 : Int64) (((own_mxL (0 : Int64) (q2 - sm)) * (w.toInt64)) / (mm.toInt64))))]) st6 ?_
    refine own_s T6 (mkF m 44 #[rv a1, .val (.long q2), v_, .val (.long (own_mxL (0 : Int64) (q2 - sm))), v_] [(.int ((own_mxL (1 : Int64) (((own_mxL (0 : Int64) (q2 - sm)) * (w.toInt64)) / (mm.toInt64))).toInt32))]) (fun _ k => XS.l2i X6.here hx rfl (hb hby own_dwat_43) rfl k) ?_
    exact own_finI X6 hx hret (hb hby own_dwat_44) (own_end (Qv := (own_Qwat Z a1 q2 w mm sm h0 n0)) X6 (own_some hret) hlk (by decide) (by decide) e6 ⟨by simp [own_wat, c18], N6, rfl⟩)
  · refine own_s T3 (mkF m 22 #[rv a1, .val (.long q2), v_, .val (.long (own_mxL (0 : Int64) (q2 - sm))), v_] [(.ref a1)]) (fun _ k => XS.ifNo X3.here hx rfl (hb hby own_dwat_18) rfl ((if0 _ _).trans (flt (own_lcltN c18)).1) (XS.aloadN X3.here hx rfl (hb hby own_dwat_21) rfl rfl k)) ?_
    obtain ⟨T7, X7, e7, st7⟩ := getF X3 hx hZ hown (host := "") (Or.inl (own_h hw 54 rfl)) Via.refl e3 F1 (g := (mkF m 22 #[rv a1, .val (.long q2), v_, .val (.long (own_mxL (0 : Int64) (q2 - sm))), v_] [(.ref a1)])) rfl rfl (hb hby own_dwat_22)
    refine own_s T7 (mkF m 25 #[rv a1, .val (.long q2), v_, .val (.long (own_mxL (0 : Int64) (q2 - sm))), v_] [(.int w)]) st7 ?_
    exact own_finI X7 hx hret (hb hby own_dwat_25) (own_end (Qv := (own_Qwat Z a1 q2 w mm sm h0 n0)) X7 (own_some hret) hlk (by decide) (by decide) e7 ⟨by simp [own_wat, c18], N2, rfl⟩)
abbrev own_y16 : MethodName := ⟨"java/lang/String", "equals", "(Ljava/lang/Object;)Z"⟩
theorem own_deq_0 : decode jdk_42_method_66_code 0 = .ok (.aload_n 0, 1) := by decide +kernel
theorem own_deq_1 : decode jdk_42_method_66_code 1 = .ok (.aload_n 1, 1) := by decide +kernel
theorem own_deq_2 : decode jdk_42_method_66_code 2 = .ok (.if_acmp .ne 5, 3) := by decide +kernel
theorem own_deq_5 : decode jdk_42_method_66_code 5 = .ok (.iconst 1, 1) := by decide +kernel
theorem own_deq_6 : decode jdk_42_method_66_code 6 = .ok (.ireturn, 1) := by decide +kernel
theorem own_efeq (m : MethodId) (x0 : Addr) (x1 : Addr) : entryFrame m #[(.ref x0), (.ref x1)] 3 = mkF m 0 #[rv x0, rv x1, u_] [] := by first | (simp [entryFrame, mkF, argsToLocals, Value.category]; done) | rfl
def own_Qeq (Z : State) (a1 : Addr) (h0 : Heap) (n0 : Nat) : Option Value → Heap → List Loc → Prop := fun v h L => v = some (.int 1) ∧ Fr n0 L ∧ h = h0
def own_Req : Room := { frames := 0, cells := 0, slots := 0, locals := 0 }
set_option maxRecDepth 65536 in
set_option maxHeartbeats 40000000 in
theorem own_rmeq (l : Launch) (Z : State) (a0 : Array Value) (hw : ∀ d ∈ tables_1, d.before a0 Z = true) (ws : List Jvm.Cond) (a1 : Addr) (h0 : Heap) (n0 : Nat) (Z0 : n0 ≤ h0.size) :
    own_Met l Z own_y16 jdk_42_method_66_code 3 (some .boolean) ws own_Req h0 #[(.ref a1), (.ref a1)] (own_Qeq Z a1 h0 n0) own_Req.cells own_Req.slots := by
  refine own_start (plainFor_of_name own_pn1) ?_
  intro p e s m below meth c s₁ X0 hx hZ hby hml hret hlk hown hnm e0
  have hown : s.vm.findClass "java/lang/String" = some m.cls := hown
  have hml : c.maxLocals = 3 := hml
  have N0 := Fr.nil n0
  refine own_cast (own_efeq m a1 a1) ?_
  refine own_s s₁ (mkF m 6 #[rv a1, rv a1, u_] [(.int 1)]) (fun _ k => XS.aloadN X0.here hx rfl (hb hby own_deq_0) rfl rfl (XS.aloadN X0.here hx rfl (hb hby own_deq_1) rfl rfl (Jvm.RoadKit.acmp (g := (mkF m 2 #[rv a1, rv a1, u_] [(.ref a1), (.ref a1)])) X0 hx rfl rfl rfl (pc0 := 2) (pc' := 5) (same := true) rfl (hb hby own_deq_2) rfl (decide_eq_true rfl) (by decide) (by decide) (XS.iconst X0.here hx rfl (hb hby own_deq_5) k)))) ?_
  exact own_finZ X0 hx (t := .boolean) hret (by simp) (z' := (1 : Int32)) rfl (hb hby own_deq_6) (own_end (Qv := (own_Qeq Z a1 h0 n0)) X0 (own_some hret) hlk (by decide) (by decide) e0 ⟨rfl, N0, rfl⟩)
theorem own_pd8 : parseMethodDescriptor "(IIII)Ljava/lang/String;" = some ⟨[.int, .int, .int, .int], some (.object "java/lang/String")⟩ := by decide +kernel
theorem own_pd9 : parseMethodDescriptor "(Ljava/lang/String;I)Lcom/example/tidewire/tidewire/rpc/ProviderAddress;" = some ⟨[(.object "java/lang/String"), .int], some (.object "com/example/tidewire/tidewire/rpc/ProviderAddress")⟩ := by decide +kernel
theorem own_pd10 : parseMethodDescriptor "()Ljava/lang/String;" = some ⟨[], some (.object "java/lang/String")⟩ := by decide +kernel
theorem own_pd11 : parseMethodDescriptor "(Ljava/lang/Object;)Z" = some ⟨[(.object "java/lang/Object")], some .boolean⟩ := by decide +kernel
theorem own_pd12 : parseMethodDescriptor "()I" = some ⟨[], some .int⟩ := by decide +kernel
theorem own_pd13 : parseMethodDescriptor "()J" = some ⟨[], some .long⟩ := by decide +kernel
theorem own_pd14 : parseMethodDescriptor "(J)I" = some ⟨[.long], some .int⟩ := by decide +kernel
theorem own_ef0 (m : MethodId) (x0 : Int32) (x1 : Int32) (x2 : Int32) (x3 : Int32) (x4 : Int32) (x5 : Int64) : entryFrame m #[(.int x0), (.int x1), (.int x2), (.int x3), (.int x4), (.long x5)] maxLocals = mkF m 0 #[iv x0, iv x1, iv x2, iv x3, iv x4, .val (.long x5), v_, u_, u_, u_, u_, u_, u_, u_, u_, u_, u_] [] := by first | (simp [entryFrame, mkF, argsToLocals, Value.category, maxLocals]; done) | rfl
def own_Q0 (Z : State) (p1 : Int32) (p2 : Int32) (p3 : Int32) (p4 : Int32) (p5 : Int32) (p6 : Int64) (gC : Int32) (h0 : Heap) (n0 : Nat) : Option Value → Heap → Vm → List Loc → Prop := fun v h vm L => v = some (.int 1) ∧ Fr n0 L
set_option maxRecDepth 65536 in
set_option maxHeartbeats 40000000 in
theorem own_rm0 (l : Launch) (Z : State) (a0 : Array Value) (hw : ∀ d ∈ tables_1, d.before a0 Z = true) (ws : List Jvm.Cond) (p1 : Int32) (p2 : Int32) (p3 : Int32) (p4 : Int32) (p5 : Int32) (p6 : Int64) (gC : Int32) (h0 : Heap) (n0 : Nat) (Z0 : n0 ≤ h0.size) (SC : Sta Z h0 "java/lang/String" "COMPACT_STRINGS" "Z" (.int gC)) (hG : ¬ gC = (0 : Int32)) (hO : Old Z n0 h0) (hh : Jvm.Lit.constHeld Z "java/lang/String" 7) (hcw : Jvm.Lit.compactW.before a0 Z = true) :
    own_MetW l Z x code maxLocals ret ws room_1 h0 (fun vm => own_EL Z vm h0) #[(.int p1), (.int p2), (.int p3), (.int p4), (.int p5), (.long p6)] (own_Q0 Z p1 p2 p3 p4 p5 p6 gC h0 n0) 24 1152 := by
  refine own_startW (plainFor_of_name own_pn2) ?_
  intro p e s m below meth c s₁ X0 hx hZ hby hml hret hlk hown hnm e0 hS hs0 hJ
  have hk0 : 0 ≤ h0.size := Nat.zero_le _
  have hown : s.vm.findClass "com/example/tidewire/tidewire/rpc/ProviderAddressOfPinLaw" = some m.cls := hown
  have hml : c.maxLocals = 17 := hml
  have N0 := Fr.nil n0
  refine own_cast (own_ef0 m p1 p2 p3 p4 p5 p6) ?_
  refine own_s s₁ (mkF m 4 #[iv p1, iv p2, iv p3, iv p4, iv p5, .val (.long p6), v_, u_, u_, u_, u_, u_, u_, u_, u_, u_, u_] [(.int p4), (.int p3), (.int p2), (.int p1)]) (fun _ k => XS.iloadN X0.here hx rfl (hb hby at_0) rfl  (XS.iloadN X0.here hx rfl (hb hby at_1) rfl  (XS.iloadN X0.here hx rfl (hb hby at_2) rfl  (XS.iloadN X0.here hx rfl (hb hby at_3) rfl  k)))) ?_
  obtain ⟨v1, T1, L1, X1, hQ1, hS, hg1, hZ, hown, st1⟩ := own_callSW (s := s) X0 hx hZ hS hk0 (y := own_y5) (W := 0) hown (own_h hw 0 rfl) (own_h hw 1 rfl) (own_h hw 2 rfl) (own_h hw 3 rfl) (by decide) (own_rmhst l Z a0 hw [] p1 p2 p3 p4 gC h0 n0 Z0 SC hG hO hh hcw) (fun vm' hv => own_ELw hJ hv) (by decide) (by decide) (g := (mkF m 4 #[iv p1, iv p2, iv p3, iv p4, iv p5, .val (.long p6), v_, u_, u_, u_, u_, u_, u_, u_, u_, u_, u_] [(.int p4), (.int p3), (.int p2), (.int p1)])) rfl (by rw [hml]; rfl) (argsL := [(.int p1), (.int p2), (.int p3), (.int p4)]) (rest := []) rfl (lenOf own_pd8 rfl) rfl (by show 2 * 0 + _ ≤ _; exact Nat.le_of_eq rfl) (hb hby at_4) e0 (by decide) (by decide)
  obtain ⟨⟨b1, rfl, g_b1, Eq1⟩, Nq1, Kq1, hJ⟩ := hQ1
  have N1 := Fr.app N0 Nq1
  have f2 := own_staKeep SC Kq1
  have f3 := Old.keep hO Kq1 all0
  have Z1 := Nat.le_trans Z0 Kq1.1
  refine own_s T1 (mkF m 7 #[iv p1, iv p2, iv p3, iv p4, iv p5, .val (.long p6), v_, u_, u_, u_, u_, u_, u_, u_, u_, u_, u_] [(.ref b1)]) st1 ?_
  refine own_s T1 (mkF m 13 #[iv p1, iv p2, iv p3, iv p4, iv p5, .val (.long p6), v_, rv b1, u_, u_, u_, u_, u_, u_, u_, u_, u_] [(.int p5), (.ref b1)]) (fun _ k => XS.astore X1.here hx rfl (hb hby at_7) rfl rfl (l' := #[iv p1, iv p2, iv p3, iv p4, iv p5, .val (.long p6), v_, rv b1, u_, u_, u_, u_, u_, u_, u_, u_, u_]) rfl (XS.aload X1.here hx rfl (hb hby at_9) rfl rfl (XS.iload X1.here hx rfl (hb hby at_11) rfl  k))) ?_
  obtain ⟨v4, T4, L4, X4, hQ4, st4⟩ := own_callS X1 hx hZ (y := own_y9) (W := 0) hown (own_h hw 34 rfl) (own_h hw 35 rfl) (own_h hw 36 rfl) (own_h hw 37 rfl) (by decide) (own_rmof l Z a0 hw [] b1 p5 T1.heap n0 Z1) (by decide) (by decide) (g := (mkF m 13 #[iv p1, iv p2, iv p3, iv p4, iv p5, .val (.long p6), v_, rv b1, u_, u_, u_, u_, u_, u_, u_, u_, u_] [(.int p5), (.ref b1)])) rfl (by rw [hml]; rfl) (argsL := [(.ref b1), (.int p5)]) (rest := []) rfl (lenOf own_pd9 rfl) rfl (by show 2 * 0 + _ ≤ _; exact Nat.le_of_eq rfl) (hb hby at_13) rfl (by decide) (by decide)
  obtain ⟨⟨b4, rfl, g_b4, Eq4, Fq4_0, Fq4_1, Fq4_2, Fq4_3, Fq4_4⟩, Nq4, Kq4⟩ := hQ4
  have N4 := Fr.app N1 Nq4
  have f5 := own_staKeep f2 Kq4
  have f6 := Old.keep f3 Kq4 all0
  have f7 := Eq1.keep Kq4
  have Z4 := Nat.le_trans Z1 Kq4.1
  have hk4 := Nat.le_trans (Nat.le_refl _) Kq4.1
  refine own_s T4 (mkF m 16 #[iv p1, iv p2, iv p3, iv p4, iv p5, .val (.long p6), v_, rv b1, u_, u_, u_, u_, u_, u_, u_, u_, u_] [(.ref b4)]) st4 ?_
  refine own_s T4 (mkF m 20 #[iv p1, iv p2, iv p3, iv p4, iv p5, .val (.long p6), v_, rv b1, rv b4, u_, u_, u_, u_, u_, u_, u_, u_] [(.long p6)]) (fun _ k => XS.astore X4.here hx rfl (hb hby at_16) rfl rfl (l' := #[iv p1, iv p2, iv p3, iv p4, iv p5, .val (.long p6), v_, rv b1, rv b4, u_, u_, u_, u_, u_, u_, u_, u_]) rfl (XS.lload X4.here hx rfl (hb hby at_18) rfl  k)) ?_
  refine own_s T4 (mkF m 23 #[iv p1, iv p2, iv p3, iv p4, iv p5, .val (.long p6), v_, rv b1, rv b4, u_, u_, u_, u_, u_, u_, u_, u_] [(.long 4611686018427387903), (.long p6)]) (X4.ldc2Long hx hown (mvT hZ (own_h hw 60 rfl)) (g := (mkF m 20 #[iv p1, iv p2, iv p3, iv p4, iv p5, .val (.long p6), v_, rv b1, rv b4, u_, u_, u_, u_, u_, u_, u_, u_] [(.long p6)])) rfl (hb hby at_20)) ?_
  refine own_s T4 (mkF m 24 #[iv p1, iv p2, iv p3, iv p4, iv p5, .val (.long p6), v_, rv b1, rv b4, u_, u_, u_, u_, u_, u_, u_, u_] [(.long (p6 &&& (4611686018427387903 : Int64)))]) (fun _ k => XS.land X4.here hx rfl (hb hby at_23) rfl k) ?_
  refine own_s T4 (mkF m 27 #[iv p1, iv p2, iv p3, iv p4, iv p5, .val (.long p6), v_, rv b1, rv b4, u_, u_, u_, u_, u_, u_, u_, u_] [(.long 600000), (.long (p6 &&& (4611686018427387903 : Int64)))]) (X4.ldc2Long hx hown (mvT hZ (own_h hw 61 rfl)) (g := (mkF m 24 #[iv p1, iv p2, iv p3, iv p4, iv p5, .val (.long p6), v_, rv b1, rv b4, u_, u_, u_, u_, u_, u_, u_, u_] [(.long (p6 &&& (4611686018427387903 : Int64)))])) rfl (hb hby at_24)) ?_
  refine own_s T4 (mkF m 34 #[iv p1, iv p2, iv p3, iv p4, iv p5, .val (.long p6), v_, rv b1, rv b4, .val (.long ((p6 &&& (4611686018427387903 : Int64)) + (600000 : Int64))), v_, u_, u_, u_, u_, u_, u_] [(.ref b4), (.ref b1)]) (fun _ k => XS.ladd X4.here hx rfl (hb hby at_27) rfl (XS.lstore X4.here hx rfl (hb hby at_28) rfl (l' := #[iv p1, iv p2, iv p3, iv p4, iv p5, .val (.long p6), v_, rv b1, rv b4, .val (.long ((p6 &&& (4611686018427387903 : Int64)) + (600000 : Int64))), v_, u_, u_, u_, u_, u_, u_]) rfl (XS.aload X4.here hx rfl (hb hby at_30) rfl rfl (XS.aload X4.here hx rfl (hb hby at_32) rfl rfl k)))) ?_
  obtain ⟨v8, T8, L8, X8, hQ8, st8⟩ := own_callV X4 hx hZ (y := own_y10) (z := own_y10) (W := 1) (a := b4) hown (own_h hw 62 rfl) (own_h hw 63 rfl) (notFace_of_selects (args := #[]) (mvT hZ (own_h hw 65 rfl))) (own_h hw 65 rfl) (own_h hw 64 rfl) (own_h hw 36 rfl) (own_h hw 66 rfl) (by decide) (own_rmg_host l Z a0 hw [] b4 b1 T4.heap n0 Z4 Fq4_0) (by decide) (by decide) Eq4 (g := (mkF m 34 #[iv p1, iv p2, iv p3, iv p4, iv p5, .val (.long p6), v_, rv b1, rv b4, .val (.long ((p6 &&& (4611686018427387903 : Int64)) + (600000 : Int64))), v_, u_, u_, u_, u_, u_, u_] [(.ref b4), (.ref b1)])) rfl (by rw [hml]; rfl) (argsL := []) (rest := [(.ref b1)]) rfl (lenOf own_pd10 rfl) rfl (by show 2 * 0 + _ ≤ _; exact Nat.le_of_eq rfl) (hb hby at_34) rfl (by decide) (by decide)
  obtain ⟨rfl, Nq8, e8⟩ := hQ8
  have N8 := Fr.app N4 Nq8
  refine own_s T8 (mkF m 37 #[iv p1, iv p2, iv p3, iv p4, iv p5, .val (.long p6), v_, rv b1, rv b4, .val (.long ((p6 &&& (4611686018427387903 : Int64)) + (600000 : Int64))), v_, u_, u_, u_, u_, u_, u_] [(.ref b1), (.ref b1)]) st8 ?_
  obtain ⟨v9, T9, L9, X9, hQ9, st9⟩ := own_callV X8 hx hZ (y := own_y16) (z := own_y16) (W := 0) (a := b1) hown (own_h hw 67 rfl) (own_h hw 68 rfl) (notFace_of_selects (args := #[]) (mvT hZ (own_h hw 70 rfl))) (own_h hw 70 rfl) (own_h hw 69 rfl) (own_h hw 6 rfl) (own_h hw 71 rfl) (by decide) (own_rmeq l Z a0 hw [] b1 T4.heap n0 Z4) (by decide) (by decide) f7 (g := (mkF m 37 #[iv p1, iv p2, iv p3, iv p4, iv p5, .val (.long p6), v_, rv b1, rv b4, .val (.long ((p6 &&& (4611686018427387903 : Int64)) + (600000 : Int64))), v_, u_, u_, u_, u_, u_, u_] [(.ref b1), (.ref b1)])) rfl (by rw [hml]; rfl) (argsL := [(.ref b1)]) (rest := []) rfl (lenOf own_pd11 rfl) rfl (by show 2 * 0 + _ ≤ _; exact Nat.le_of_eq rfl) (hb hby at_37) e8 (by decide) (by decide)
  obtain ⟨rfl, Nq9, e9⟩ := hQ9
  have N9 := Fr.app N8 Nq9
  refine own_s T9 (mkF m 40 #[iv p1, iv p2, iv p3, iv p4, iv p5, .val (.long p6), v_, rv b1, rv b4, .val (.long ((p6 &&& (4611686018427387903 : Int64)) + (600000 : Int64))), v_, u_, u_, u_, u_, u_, u_] [(.int 1)]) st9 ?_
  refine own_s T9 (mkF m 44 #[iv p1, iv p2, iv p3, iv p4, iv p5, .val (.long p6), v_, rv b1, rv b4, .val (.long ((p6 &&& (4611686018427387903 : Int64)) + (600000 : Int64))), v_, iv 1, u_, u_, u_, u_, u_] [(.ref b4)]) (fun _ k => XS.istore X9.here hx rfl (hb hby at_40) rfl (l' := #[iv p1, iv p2, iv p3, iv p4, iv p5, .val (.long p6), v_, rv b1, rv b4, .val (.long ((p6 &&& (4611686018427387903 : Int64)) + (600000 : Int64))), v_, iv 1, u_, u_, u_, u_, u_]) rfl (XS.aload X9.here hx rfl (hb hby at_42) rfl rfl k)) ?_
  obtain ⟨v10, T10, L10, X10, hQ10, st10⟩ := own_callV X9 hx hZ (y := own_y11) (z := own_y11) (W := 0) (a := b4) hown (own_h hw 72 rfl) (own_h hw 73 rfl) (notFace_of_selects (args := #[]) (mvT hZ (own_h hw 75 rfl))) (own_h hw 75 rfl) (own_h hw 74 rfl) (own_h hw 36 rfl) (own_h hw 76 rfl) (by decide) (own_rmg_port l Z a0 hw [] b4 p5 T4.heap n0 Z4 Fq4_1) (by decide) (by decide) Eq4 (g := (mkF m 44 #[iv p1, iv p2, iv p3, iv p4, iv p5, .val (.long p6), v_, rv b1, rv b4, .val (.long ((p6 &&& (4611686018427387903 : Int64)) + (600000 : Int64))), v_, iv 1, u_, u_, u_, u_, u_] [(.ref b4)])) rfl (by rw [hml]; rfl) (argsL := []) (rest := []) rfl (lenOf own_pd12 rfl) rfl (by show 2 * 0 + _ ≤ _; exact Nat.le_of_eq rfl) (hb hby at_44) e9 (by decide) (by decide)
  obtain ⟨rfl, Nq10, e10⟩ := hQ10
  have N10 := Fr.app N9 Nq10
  refine own_s T10 (mkF m 47 #[iv p1, iv p2, iv p3, iv p4, iv p5, .val (.long p6), v_, rv b1, rv b4, .val (.long ((p6 &&& (4611686018427387903 : Int64)) + (600000 : Int64))), v_, iv 1, u_, u_, u_, u_, u_] [(.int p5)]) st10 ?_
  refine own_s T10 (mkF m 59 #[iv p1, iv p2, iv p3, iv p4, iv p5, .val (.long p6), v_, rv b1, rv b4, .val (.long ((p6 &&& (4611686018427387903 : Int64)) + (600000 : Int64))), v_, iv 1, iv 1, u_, u_, u_, u_] []) (fun _ k => XS.iload X10.here hx rfl (hb hby at_47) rfl  (XS.icmpNo X10.here hx rfl (hb hby at_49) rfl (teq rfl).2 (XS.iconst X10.here hx rfl (hb hby at_52) (XS.goto X10.here hx rfl (pc0 := 53) (pc' := 57) rfl (hb hby at_53) (by decide) (by decide) (XS.istore X10.here hx rfl (hb hby at_57) rfl (l' := #[iv p1, iv p2, iv p3, iv p4, iv p5, .val (.long p6), v_, rv b1, rv b4, .val (.long ((p6 &&& (4611686018427387903 : Int64)) + (600000 : Int64))), v_, iv 1, iv 1, u_, u_, u_, u_]) rfl k))))) ?_
  refine own_s T10 (mkF m 61 #[iv p1, iv p2, iv p3, iv p4, iv p5, .val (.long p6), v_, rv b1, rv b4, .val (.long ((p6 &&& (4611686018427387903 : Int64)) + (600000 : Int64))), v_, iv 1, iv 1, u_, u_, u_, u_] [(.ref b4)]) (fun _ k => XS.aload X10.here hx rfl (hb hby at_59) rfl rfl k) ?_
  obtain ⟨v11, T11, L11, X11, hQ11, st11⟩ := own_callV X10 hx hZ (y := own_y12) (z := own_y12) (W := 0) (a := b4) hown (own_h hw 77 rfl) (own_h hw 78 rfl) (notFace_of_selects (args := #[]) (mvT hZ (own_h hw 80 rfl))) (own_h hw 80 rfl) (own_h hw 79 rfl) (own_h hw 36 rfl) (own_h hw 81 rfl) (by decide) (own_rmg_weight l Z a0 hw [] b4 (100 : Int32) T4.heap n0 Z4 Fq4_2) (by decide) (by decide) Eq4 (g := (mkF m 61 #[iv p1, iv p2, iv p3, iv p4, iv p5, .val (.long p6), v_, rv b1, rv b4, .val (.long ((p6 &&& (4611686018427387903 : Int64)) + (600000 : Int64))), v_, iv 1, iv 1, u_, u_, u_, u_] [(.ref b4)])) rfl (by rw [hml]; rfl) (argsL := []) (rest := []) rfl (lenOf own_pd12 rfl) rfl (by show 2 * 0 + _ ≤ _; exact Nat.le_of_eq rfl) (hb hby at_61) e10 (by decide) (by decide)
  obtain ⟨rfl, Nq11, e11⟩ := hQ11
  have N11 := Fr.app N10 Nq11
  refine own_s T11 (mkF m 64 #[iv p1, iv p2, iv p3, iv p4, iv p5, .val (.long p6), v_, rv b1, rv b4, .val (.long ((p6 &&& (4611686018427387903 : Int64)) + (600000 : Int64))), v_, iv 1, iv 1, u_, u_, u_, u_] [(.int 100)]) st11 ?_
  refine own_s T11 (mkF m 71 #[iv p1, iv p2, iv p3, iv p4, iv p5, .val (.long p6), v_, rv b1, rv b4, .val (.long ((p6 &&& (4611686018427387903 : Int64)) + (600000 : Int64))), v_, iv 1, iv 1, u_, u_, u_, u_] [(.ref b4)]) (fun _ k => XS.bipush X11.here hx rfl (hb hby at_64) (XS.icmpNo X11.here hx rfl (hb hby at_66) rfl (teq (by decide : ((100 : Int32) = (100 : Int32)))).2 (XS.aload X11.here hx rfl (hb hby at_69) rfl rfl k))) ?_
  obtain ⟨v12, T12, L12, X12, hQ12, st12⟩ := own_callV X11 hx hZ (y := own_y12) (z := own_y12) (W := 0) (a := b4) hown (own_h hw 77 rfl) (own_h hw 78 rfl) (notFace_of_selects (args := #[]) (mvT hZ (own_h hw 80 rfl))) (own_h hw 80 rfl) (own_h hw 79 rfl) (own_h hw 36 rfl) (own_h hw 81 rfl) (by decide) (own_rmg_weight l Z a0 hw [] b4 (100 : Int32) T4.heap n0 Z4 Fq4_2) (by decide) (by decide) Eq4 (g := (mkF m 71 #[iv p1, iv p2, iv p3, iv p4, iv p5, .val (.long p6), v_, rv b1, rv b4, .val (.long ((p6 &&& (4611686018427387903 : Int64)) + (600000 : Int64))), v_, iv 1, iv 1, u_, u_, u_, u_] [(.ref b4)])) rfl (by rw [hml]; rfl) (argsL := []) (rest := []) rfl (lenOf own_pd12 rfl) rfl (by show 2 * 0 + _ ≤ _; exact Nat.le_of_eq rfl) (hb hby at_71) e11 (by decide) (by decide)
  obtain ⟨rfl, Nq12, e12⟩ := hQ12
  have N12 := Fr.app N11 Nq12
  refine own_s T12 (mkF m 74 #[iv p1, iv p2, iv p3, iv p4, iv p5, .val (.long p6), v_, rv b1, rv b4, .val (.long ((p6 &&& (4611686018427387903 : Int64)) + (600000 : Int64))), v_, iv 1, iv 1, u_, u_, u_, u_] [(.int 100)]) st12 ?_
  refine own_s T12 (mkF m 86 #[iv p1, iv p2, iv p3, iv p4, iv p5, .val (.long p6), v_, rv b1, rv b4, .val (.long ((p6 &&& (4611686018427387903 : Int64)) + (600000 : Int64))), v_, iv 1, iv 1, iv 1, u_, u_, u_] []) (fun _ k => XS.bipush X12.here hx rfl (hb hby at_74) (XS.icmpNo X12.here hx rfl (hb hby at_76) rfl (teq (by decide : ((100 : Int32) = (100 : Int32)))).2 (XS.iconst X12.here hx rfl (hb hby at_79) (XS.goto X12.here hx rfl (pc0 := 80) (pc' := 84) rfl (hb hby at_80) (by decide) (by decide) (XS.istore X12.here hx rfl (hb hby at_84) rfl (l' := #[iv p1, iv p2, iv p3, iv p4, iv p5, .val (.long p6), v_, rv b1, rv b4, .val (.long ((p6 &&& (4611686018427387903 : Int64)) + (600000 : Int64))), v_, iv 1, iv 1, iv 1, u_, u_, u_]) rfl k))))) ?_
  refine own_s T12 (mkF m 88 #[iv p1, iv p2, iv p3, iv p4, iv p5, .val (.long p6), v_, rv b1, rv b4, .val (.long ((p6 &&& (4611686018427387903 : Int64)) + (600000 : Int64))), v_, iv 1, iv 1, iv 1, u_, u_, u_] [(.ref b4)]) (fun _ k => XS.aload X12.here hx rfl (hb hby at_86) rfl rfl k) ?_
  obtain ⟨v13, T13, L13, X13, hQ13, st13⟩ := own_callV X12 hx hZ (y := own_y13) (z := own_y13) (W := 0) (a := b4) hown (own_h hw 82 rfl) (own_h hw 83 rfl) (notFace_of_selects (args := #[]) (mvT hZ (own_h hw 85 rfl))) (own_h hw 85 rfl) (own_h hw 84 rfl) (own_h hw 36 rfl) (own_h hw 86 rfl) (by decide) (own_rmg_warmupMillis l Z a0 hw [] b4 (600000 : Int32) T4.heap n0 Z4 Fq4_3) (by decide) (by decide) Eq4 (g := (mkF m 88 #[iv p1, iv p2, iv p3, iv p4, iv p5, .val (.long p6), v_, rv b1, rv b4, .val (.long ((p6 &&& (4611686018427387903 : Int64)) + (600000 : Int64))), v_, iv 1, iv 1, iv 1, u_, u_, u_] [(.ref b4)])) rfl (by rw [hml]; rfl) (argsL := []) (rest := []) rfl (lenOf own_pd12 rfl) rfl (by show 2 * 0 + _ ≤ _; exact Nat.le_of_eq rfl) (hb hby at_88) e12 (by decide) (by decide)
  obtain ⟨rfl, Nq13, e13⟩ := hQ13
  have N13 := Fr.app N12 Nq13
  refine own_s T13 (mkF m 91 #[iv p1, iv p2, iv p3, iv p4, iv p5, .val (.long p6), v_, rv b1, rv b4, .val (.long ((p6 &&& (4611686018427387903 : Int64)) + (600000 : Int64))), v_, iv 1, iv 1, iv 1, u_, u_, u_] [(.int 600000)]) st13 ?_
  refine own_s T13 (mkF m 93 #[iv p1, iv p2, iv p3, iv p4, iv p5, .val (.long p6), v_, rv b1, rv b4, .val (.long ((p6 &&& (4611686018427387903 : Int64)) + (600000 : Int64))), v_, iv 1, iv 1, iv 1, u_, u_, u_] [(.int 600000), (.int 600000)]) (X13.ldcInt hx hown (mvT hZ (own_h hw 87 rfl)) (g := (mkF m 91 #[iv p1, iv p2, iv p3, iv p4, iv p5, .val (.long p6), v_, rv b1, rv b4, .val (.long ((p6 &&& (4611686018427387903 : Int64)) + (600000 : Int64))), v_, iv 1, iv 1, iv 1, u_, u_, u_] [(.int 600000)])) rfl (hb hby at_91)) ?_
  refine own_s T13 (mkF m 98 #[iv p1, iv p2, iv p3, iv p4, iv p5, .val (.long p6), v_, rv b1, rv b4, .val (.long ((p6 &&& (4611686018427387903 : Int64)) + (600000 : Int64))), v_, iv 1, iv 1, iv 1, u_, u_, u_] [(.ref b4)]) (fun _ k => XS.icmpNo X13.here hx rfl (hb hby at_93) rfl (teq (by decide : ((600000 : Int32) = (600000 : Int32)))).2 (XS.aload X13.here hx rfl (hb hby at_96) rfl rfl k)) ?_
  obtain ⟨v14, T14, L14, X14, hQ14, st14⟩ := own_callV X13 hx hZ (y := own_y13) (z := own_y13) (W := 0) (a := b4) hown (own_h hw 82 rfl) (own_h hw 83 rfl) (notFace_of_selects (args := #[]) (mvT hZ (own_h hw 85 rfl))) (own_h hw 85 rfl) (own_h hw 84 rfl) (own_h hw 36 rfl) (own_h hw 86 rfl) (by decide) (own_rmg_warmupMillis l Z a0 hw [] b4 (600000 : Int32) T4.heap n0 Z4 Fq4_3) (by decide) (by decide) Eq4 (g := (mkF m 98 #[iv p1, iv p2, iv p3, iv p4, iv p5, .val (.long p6), v_, rv b1, rv b4, .val (.long ((p6 &&& (4611686018427387903 : Int64)) + (600000 : Int64))), v_, iv 1, iv 1, iv 1, u_, u_, u_] [(.ref b4)])) rfl (by rw [hml]; rfl) (argsL := []) (rest := []) rfl (lenOf own_pd12 rfl) rfl (by show 2 * 0 + _ ≤ _; exact Nat.le_of_eq rfl) (hb hby at_98) e13 (by decide) (by decide)
  obtain ⟨rfl, Nq14, e14⟩ := hQ14
  have N14 := Fr.app N13 Nq14
  refine own_s T14 (mkF m 101 #[iv p1, iv p2, iv p3, iv p4, iv p5, .val (.long p6), v_, rv b1, rv b4, .val (.long ((p6 &&& (4611686018427387903 : Int64)) + (600000 : Int64))), v_, iv 1, iv 1, iv 1, u_, u_, u_] [(.int 600000)]) st14 ?_
  refine own_s T14 (mkF m 103 #[iv p1, iv p2, iv p3, iv p4, iv p5, .val (.long p6), v_, rv b1, rv b4, .val (.long ((p6 &&& (4611686018427387903 : Int64)) + (600000 : Int64))), v_, iv 1, iv 1, iv 1, u_, u_, u_] [(.int 600000), (.int 600000)]) (X14.ldcInt hx hown (mvT hZ (own_h hw 87 rfl)) (g := (mkF m 101 #[iv p1, iv p2, iv p3, iv p4, iv p5, .val (.long p6), v_, rv b1, rv b4, .val (.long ((p6 &&& (4611686018427387903 : Int64)) + (600000 : Int64))), v_, iv 1, iv 1, iv 1, u_, u_, u_] [(.int 600000)])) rfl (hb hby at_101)) ?_
  refine own_s T14 (mkF m 115 #[iv p1, iv p2, iv p3, iv p4, iv p5, .val (.long p6), v_, rv b1, rv b4, .val (.long ((p6 &&& (4611686018427387903 : Int64)) + (600000 : Int64))), v_, iv 1, iv 1, iv 1, iv 1, u_, u_] [(.ref b4)]) (fun _ k => XS.icmpNo X14.here hx rfl (hb hby at_103) rfl (teq (by decide : ((600000 : Int32) = (600000 : Int32)))).2 (XS.iconst X14.here hx rfl (hb hby at_106) (XS.goto X14.here hx rfl (pc0 := 107) (pc' := 111) rfl (hb hby at_107) (by decide) (by decide) (XS.istore X14.here hx rfl (hb hby at_111) rfl (l' := #[iv p1, iv p2, iv p3, iv p4, iv p5, .val (.long p6), v_, rv b1, rv b4, .val (.long ((p6 &&& (4611686018427387903 : Int64)) + (600000 : Int64))), v_, iv 1, iv 1, iv 1, iv 1, u_, u_]) rfl (XS.aload X14.here hx rfl (hb hby at_113) rfl rfl k))))) ?_
  obtain ⟨v15, T15, L15, X15, hQ15, st15⟩ := own_callV X14 hx hZ (y := own_y14) (z := own_y14) (W := 0) (a := b4) hown (own_h hw 88 rfl) (own_h hw 89 rfl) (notFace_of_selects (args := #[]) (mvT hZ (own_h hw 91 rfl))) (own_h hw 91 rfl) (own_h hw 90 rfl) (own_h hw 36 rfl) (own_h hw 92 rfl) (by decide) (own_rmg_startMillis l Z a0 hw [] b4 (0 : Int64) T4.heap n0 Z4 Fq4_4) (by decide) (by decide) Eq4 (g := (mkF m 115 #[iv p1, iv p2, iv p3, iv p4, iv p5, .val (.long p6), v_, rv b1, rv b4, .val (.long ((p6 &&& (4611686018427387903 : Int64)) + (600000 : Int64))), v_, iv 1, iv 1, iv 1, iv 1, u_, u_] [(.ref b4)])) rfl (by rw [hml]; rfl) (argsL := []) (rest := []) rfl (lenOf own_pd13 rfl) rfl (by show 2 * 0 + _ ≤ _; exact Nat.le_of_eq rfl) (hb hby at_115) e14 (by decide) (by decide)
  obtain ⟨rfl, Nq15, e15⟩ := hQ15
  have N15 := Fr.app N14 Nq15
  refine own_s T15 (mkF m 118 #[iv p1, iv p2, iv p3, iv p4, iv p5, .val (.long p6), v_, rv b1, rv b4, .val (.long ((p6 &&& (4611686018427387903 : Int64)) + (600000 : Int64))), v_, iv 1, iv 1, iv 1, iv 1, u_, u_] [(.long 0)]) st15 ?_
  refine own_s T15 (mkF m 128 #[iv p1, iv p2, iv p3, iv p4, iv p5, .val (.long p6), v_, rv b1, rv b4, .val (.long ((p6 &&& (4611686018427387903 : Int64)) + (600000 : Int64))), v_, iv 1, iv 1, iv 1, iv 1, u_, u_] [(.int 1)]) (fun _ k => XS.lconst X15.here hx rfl (hb hby at_118) (XS.lcmp X15.here hx rfl (hb hby at_119) rfl (XS.ifNo X15.here hx rfl (hb hby at_120) rfl ((if0 _ _).trans (teq (own_lceq rfl)).2) (XS.iconst X15.here hx rfl (hb hby at_123) (XS.goto X15.here hx rfl (pc0 := 124) (pc' := 128) rfl (hb hby at_124) (by decide) (by decide) k))))) ?_
  refine own_s T15 (mkF m 134 #[iv p1, iv p2, iv p3, iv p4, iv p5, .val (.long p6), v_, rv b1, rv b4, .val (.long ((p6 &&& (4611686018427387903 : Int64)) + (600000 : Int64))), v_, iv 1, iv 1, iv 1, iv 1, iv 1, u_] [(.long ((p6 &&& (4611686018427387903 : Int64)) + (600000 : Int64))), (.ref b4)]) (fun _ k => XS.istore X15.here hx rfl (hb hby at_128) rfl (l' := #[iv p1, iv p2, iv p3, iv p4, iv p5, .val (.long p6), v_, rv b1, rv b4, .val (.long ((p6 &&& (4611686018427387903 : Int64)) + (600000 : Int64))), v_, iv 1, iv 1, iv 1, iv 1, iv 1, u_]) rfl (XS.aload X15.here hx rfl (hb hby at_130) rfl rfl (XS.lload X15.here hx rfl (hb hby at_132) rfl  k))) ?_
  obtain ⟨v16, T16, L16, X16, hQ16, st16⟩ := own_callV X15 hx hZ (y := own_y15) (z := own_y15) (W := 0) (a := b4) hown (own_h hw 93 rfl) (own_h hw 94 rfl) (notFace_of_selects (args := #[]) (mvT hZ (own_h hw 96 rfl))) (own_h hw 96 rfl) (own_h hw 95 rfl) (own_h hw 36 rfl) (own_h hw 97 rfl) (by decide) (own_rmwat l Z a0 hw [] b4 ((p6 &&& (4611686018427387903 : Int64)) + (600000 : Int64)) (100 : Int32) (600000 : Int32) (0 : Int64) T4.heap n0 Z4 Fq4_2 Fq4_3 Fq4_4) (by decide) (by decide) Eq4 (g := (mkF m 134 #[iv p1, iv p2, iv p3, iv p4, iv p5, .val (.long p6), v_, rv b1, rv b4, .val (.long ((p6 &&& (4611686018427387903 : Int64)) + (600000 : Int64))), v_, iv 1, iv 1, iv 1, iv 1, iv 1, u_] [(.long ((p6 &&& (4611686018427387903 : Int64)) + (600000 : Int64))), (.ref b4)])) rfl (by rw [hml]; rfl) (argsL := [(.long ((p6 &&& (4611686018427387903 : Int64)) + (600000 : Int64)))]) (rest := []) rfl (lenOf own_pd14 rfl) rfl (by show 2 * 0 + _ ≤ _; exact Nat.le_of_eq rfl) (hb hby at_134) e15 (by decide) (by decide)
  obtain ⟨rfl, Nq16, e16⟩ := hQ16
  have N16 := Fr.app N15 Nq16
  refine own_s T16 (mkF m 137 #[iv p1, iv p2, iv p3, iv p4, iv p5, .val (.long p6), v_, rv b1, rv b4, .val (.long ((p6 &&& (4611686018427387903 : Int64)) + (600000 : Int64))), v_, iv 1, iv 1, iv 1, iv 1, iv 1, u_] [(.int (own_wat (100 : Int32) (600000 : Int32) (0 : Int64) ((p6 &&& (4611686018427387903 : Int64)) + (600000 : Int64))))]) st16 ?_
  refine own_s T16 (mkF m 149 #[iv p1, iv p2, iv p3, iv p4, iv p5, .val (.long p6), v_, rv b1, rv b4, .val (.long ((p6 &&& (4611686018427387903 : Int64)) + (600000 : Int64))), v_, iv 1, iv 1, iv 1, iv 1, iv 1, iv 1] []) (fun _ k => XS.bipush X16.here hx rfl (hb hby at_137) (XS.icmpNo X16.here hx rfl (hb hby at_139) rfl (teq (own_warm _)).2 (XS.iconst X16.here hx rfl (hb hby at_142) (XS.goto X16.here hx rfl (pc0 := 143) (pc' := 147) rfl (hb hby at_143) (by decide) (by decide) (XS.istore X16.here hx rfl (hb hby at_147) rfl (l' := #[iv p1, iv p2, iv p3, iv p4, iv p5, .val (.long p6), v_, rv b1, rv b4, .val (.long ((p6 &&& (4611686018427387903 : Int64)) + (600000 : Int64))), v_, iv 1, iv 1, iv 1, iv 1, iv 1, iv 1]) rfl k))))) ?_
  refine own_s T16 (mkF m 161 #[iv p1, iv p2, iv p3, iv p4, iv p5, .val (.long p6), v_, rv b1, rv b4, .val (.long ((p6 &&& (4611686018427387903 : Int64)) + (600000 : Int64))), v_, iv 1, iv 1, iv 1, iv 1, iv 1, iv 1] [(.int 1)]) (fun _ k => XS.iload X16.here hx rfl (hb hby at_149) rfl  (XS.ifNo X16.here hx rfl (hb hby at_151) rfl ((if0 _ _).trans (feq (by decide : ¬ ((1 : Int32) = (0 : Int32)))).1) (XS.iload X16.here hx rfl (hb hby at_154) rfl  (XS.ifNo X16.here hx rfl (hb hby at_156) rfl ((if0 _ _).trans (feq (by decide : ¬ ((1 : Int32) = (0 : Int32)))).1) (XS.iload X16.here hx rfl (hb hby at_159) rfl  k))))) ?_
  refine own_s T16 (mkF m 174 #[iv p1, iv p2, iv p3, iv p4, iv p5, .val (.long p6), v_, rv b1, rv b4, .val (.long ((p6 &&& (4611686018427387903 : Int64)) + (600000 : Int64))), v_, iv 1, iv 1, iv 1, iv 1, iv 1, iv 1] []) (fun _ k => XS.ifNo X16.here hx rfl (hb hby at_161) rfl ((if0 _ _).trans (feq (by decide : ¬ ((1 : Int32) = (0 : Int32)))).1) (XS.iload X16.here hx rfl (hb hby at_164) rfl  (XS.ifNo X16.here hx rfl (hb hby at_166) rfl ((if0 _ _).trans (feq (by decide : ¬ ((1 : Int32) = (0 : Int32)))).1) (XS.iload X16.here hx rfl (hb hby at_169) rfl  (XS.ifNo X16.here hx rfl (hb hby at_171) rfl ((if0 _ _).trans (feq (by decide : ¬ ((1 : Int32) = (0 : Int32)))).1) k))))) ?_
  refine own_s T16 (mkF m 184 #[iv p1, iv p2, iv p3, iv p4, iv p5, .val (.long p6), v_, rv b1, rv b4, .val (.long ((p6 &&& (4611686018427387903 : Int64)) + (600000 : Int64))), v_, iv 1, iv 1, iv 1, iv 1, iv 1, iv 1] [(.int 1)]) (fun _ k => XS.iload X16.here hx rfl (hb hby at_174) rfl  (XS.ifNo X16.here hx rfl (hb hby at_176) rfl ((if0 _ _).trans (feq (by decide : ¬ ((1 : Int32) = (0 : Int32)))).1) (XS.iconst X16.here hx rfl (hb hby at_179) (XS.goto X16.here hx rfl (pc0 := 180) (pc' := 184) rfl (hb hby at_180) (by decide) (by decide) k)))) ?_
  exact own_finZ X16 hx (t := .boolean) hret (by simp) (z' := (1 : Int32)) rfl (hb hby at_184) (own_endW (Qv := (own_Q0 Z p1 p2 p3 p4 p5 p6 gC h0 n0)) X16 hS (own_some hret) hlk (by decide) (by decide) e16 hk4 (fun vm' hv' => ⟨rfl, N16⟩))
set_option maxRecDepth 65536 in
set_option maxHeartbeats 40000000 in
theorem comes_1 {Post : Tables → Env → Array Value → State → Outcome → State → Prop} (hpost : ∀ tb e args s v u, (limb_1_1.after args s (.returned v) u = true ∧ limb_1_2.after args s (.returned v) u = true ∧ True) → ReturnedEndW s (.returned v) u (Jvm.fieldLocs frame_1_writes args s ++ Jvm.arrayLocs frame_1_arrays args s ++ Jvm.staticLocs frame_1_statics s) 24 1152 → Post tb e args s (.returned v) u) :
    ArmFor flags0 classFile x code maxLocals ret World_1 tables_1 room_1 Calls_1 rest_1 Pre_1 Post := by
  intro l hfl _ _ p e ha hc hk s m args below hf hA hF happ hP
  obtain ⟨hcalls, hrest, hpre⟩ := hP
  obtain ⟨-, -, -, hnamed, -, -, -, hat⟩ := (Spec.applies_iff hf).mp happ
  obtain ⟨hg, hn⟩ := and_e (Cond.before_iff.mp (show (Jvm.Cond.and given_1 narrow_1).before args s = true from hpre))
  obtain ⟨g1, g2⟩ := and_e hg
  obtain ⟨g3, g4⟩ := and_e g2
  obtain ⟨g5, g6⟩ := and_e g4
  obtain ⟨g7, g8⟩ := and_e g6
  obtain ⟨g9, g10⟩ := and_e g8
  obtain ⟨g11, g12⟩ := and_e g10
  obtain ⟨w0, w1, w2, w3, w4, w5, rfl⟩ : ∃ w0 w1 w2 w3 w4 w5 : Value, args = #[w0, w1, w2, w3, w4, w5] := by
    have hs : args.size = 6 := by simpa [Cond.value, given_1] using g1
    obtain ⟨L⟩ := args
    match L, hs with
    | [w0, w1, w2, w3, w4, w5], _ => exact ⟨w0, w1, w2, w3, w4, w5, rfl⟩
  have hw := fun d (hd : d ∈ tables_1) => atoms_spec (ws := Jvm.Cond.code x code maxLocals ret :: tables_1) hat d (List.mem_cons_of_mem _ hd)
  have hfit : Fit s := fun {y c} hc i hi => by
    obtain ⟨ha, rfl⟩ := Array.getElem?_eq_some_iff.mp hc
    have q := List.all_eq_true.mp ((Array.all_eq_true_iff_forall_mem.mp hF) _ (Array.getElem_mem ha)) i (List.mem_range.mpr hi)
    simpa [Array.getElem?_eq_getElem hi] using q
  obtain ⟨hsets, hown0⟩ := atoms_of _ (rest_1_c_eq ▸ (show rest_1_c.before _ s = true from hrest))
  have hr0 := Cond.before_iff.mp hown0
  obtain ⟨i0, ei0⟩ := is_v g3
  obtain rfl : w0 = (.int i0) := Option.some.inj ei0
  obtain ⟨i1, ei1⟩ := is_v g5
  obtain rfl : w1 = (.int i1) := Option.some.inj ei1
  obtain ⟨i2, ei2⟩ := is_v g7
  obtain rfl : w2 = (.int i2) := Option.some.inj ei2
  obtain ⟨i3, ei3⟩ := is_v g9
  obtain rfl : w3 = (.int i3) := Option.some.inj ei3
  obtain ⟨i4, ei4⟩ := is_v g11
  obtain rfl : w4 = (.int i4) := Option.some.inj ei4
  obtain ⟨i5, ei5⟩ := isL_v g12
  obtain rfl : w5 = (.long i5) := Option.some.inj ei5
  obtain ⟨gC, SC, eG⟩ := own_staI (Cond.before_iff.mp (hsets _ (List.mem_of_getElem? (i := 1) rfl))) (hsets _ (List.mem_of_getElem? (i := 0) rfl))
  have hG := own_not0 eG (Cond.before_iff.mp (hsets _ (List.mem_of_getElem? (i := 2) rfl)))
  have hcw : Jvm.Lit.compactW.before _ s = true := hsets _ (List.mem_of_getElem? (i := 2) rfl)
  have hh : Jvm.Lit.constHeld s "java/lang/String" 7 := hcalls.1 ("java/lang/String", 7) (by simp [consts_1])
  obtain ⟨n, o, h1, h2, h3, _, L, rfl, ⟨rfl, N⟩, hq⟩ := own_rm0 l s _ hw tables_1 i0 i1 i2 i3 i4 i5 gC s.heap s.heap.size (Nat.le_refl _) SC hG (Old.start s) hh hcw p e ha hc hk s m _ below hf ((Spec.applies_iff_loose hf).mp happ).1 ⟨rfl, State.Warmed39.refl s, rfl, Or.inl IB.start⟩ trivial
  refine ⟨n, _, h1, h2, h3, hpost _ _ _ _ _ _ ⟨Cond.after_iff.mpr rfl, Cond.after_iff.mpr (eq_i res_at (Term.int_eval (1)) rfl), trivial⟩ ⟨hq.1, hq.2.1, hq.2.2.1, (hq.2.2.2.sift fun y hy => Or.inr (N y hy)).mono (by decide) (by decide)⟩⟩
theorem main_1_1 : Claimed_1_1 := comes_1 fun _ _ _ _ _ _ h hF => ⟨h.1, hF⟩
theorem main_1_2 : Claimed_1_2 := comes_1 fun _ _ _ _ _ _ h hF => ⟨h.2.1, hF⟩
end Jvm.Pilot.@@N@@
namespace Jvm.Pilot.@@N@@
open Jvm Jvm.ClassFile Sem Op Lib Jvm.Free Jvm.Stand Jvm.Pilot.@@N@@.Jvm.D
/-! MADE BY PROGRAM (witnessworld.py) out of the Statement's table words and the real class files: 22 classes; the members and pool entries that the words name. The judged class is class 1, her method 2. -/
namespace start1
open Jvm.ClassFile
def u (s : String) : CpInfo := .utf8 (stringToUtf16 s)
/-- a pool by its gaps: so many unusable entries, then the entry; so many at the end -/
def gap : Nat → List CpInfo → List CpInfo
  | 0, r => r
  | n + 1, r => .unusable :: gap n r
def poolList (es : List (Nat × CpInfo)) (last : Nat) : List CpInfo := es.foldr (fun e r => gap e.1 (e.2 :: r)) (gap last [])
def pool (es : List (Nat × CpInfo)) (last : Nat) : Array CpInfo := ⟨poolList es last⟩
def fileOf (pool : Array CpInfo) (this : Nat) (attrs : Array Attribute := #[]) (ms : Array MethodInfo := #[]) (fl : Nat := 33) (sup : Nat := 0) (ifs : Array Nat := #[]) (fds : Array FieldInfo := #[]) : ClassFile where
  minorVersion := 0
  majorVersion := 65
  constantPool := pool
  accessFlags := fl
  thisClass := this
  superClass := sup
  interfaces := ifs
  fields := fds
  methods := ms
  attributes := attrs
def plain (name : String) (sup : Option ClassId) : Class where
  name := name
  kind := .ordinary
  loader := none
  accessFlags := 33
  super := sup
  interfaces := #[]
  cf := none
  fields := #[]
  methods := #[]
  instanceTypes := #[]
  staticTypes := #[]
  resolved := #[]
  callSites := []
  init := .initialized
  statics := none
  mirror := none

def pool0 : Array CpInfo := pool [(5, u "<init>"), (0, u "()V"), (1, .class_ 10), (1, u "java/lang/Object")] 113

def k0c0 : Code := { maxStack := 0, maxLocals := 1, code := object_method_1_code, exceptionTable := #[], attributes := #[] }
def k0m0 : Method := { name := "<init>", desc := "()V", sig := { parameters := [], returnType := none }, accessFlags := 1, code := some k0c0 }
/-- java/lang/Object -/
def k0 : Class := { plain "java/lang/Object" none with
  accessFlags := 33
  interfaces := #[]
  cf := some (fileOf pool0 8 #[] #[{ accessFlags := 1, nameIndex := 5, descriptorIndex := 6, attributes := #[] }] 33 0 #[] #[])
  fields := #[]
  methods := #[k0m0]
  instanceTypes := #[]
  staticTypes := #[]
  resolved := Array.replicate 124 none
  statics := none }

def pool1 : Array CpInfo := pool [(2, .class_ 4), (1, u "java/lang/Object"), (0, u "<init>"), (0, u "()V"), (0, .class_ 8), (0, u "java/lang/String"), (0, .methodref 7 10), (0, .nameAndType 5 11), (0, u "([C)V"), (0, .methodref 13 14), (0, .class_ 15), (0, .nameAndType 16 17), (0, u "com/example/tidewire/tidewire/rpc/ProviderAddressOfPinLaw"), (0, u "host"), (0, u "(IIII)Ljava/lang/String;"), (0, .methodref 19 20), (0, .class_ 21), (0, .nameAndType 22 23), (0, u "com/example/tidewire/tidewire/rpc/ProviderAddress"), (0, u "of"), (0, u "(Ljava/lang/String;I)Lcom/example/tidewire/tidewire/rpc/ProviderAddress;"), (0, .long 4611686018427387903), (1, .long 600000), (1, .methodref 19 29), (0, .nameAndType 16 30), (0, u "()Ljava/lang/String;"), (0, .methodref 7 32), (0, .nameAndType 33 34), (0, u "equals"), (0, u "(Ljava/lang/Object;)Z"), (0, .methodref 19 36), (0, .nameAndType 37 38), (0, u "port"), (0, u "()I"), (0, .methodref 19 40), (0, .nameAndType 41 38), (0, u "weight"), (0, .methodref 19 43), (0, .nameAndType 44 38), (0, u "warmupMillis"), (0, .integer 600000), (0, .methodref 19 47), (0, .nameAndType 48 49), (0, u "startMillis"), (0, u "()J"), (0, .methodref 19 51), (0, .nameAndType 52 53), (0, u "weightAt"), (0, u "(J)I"), (3, u "law"), (0, u "(IIIIIJ)Z")] 2

def k1m0 : Method := { name := "<init>", desc := "()V", sig := { parameters := [], returnType := none }, accessFlags := 2, code := none }
def k1c1 : Code := { maxStack := 6, maxLocals := 8, code := method_2_code, exceptionTable := #[], attributes := #[] }
def k1m1 : Method := { name := "host", desc := "(IIII)Ljava/lang/String;", sig := { parameters := [.int, .int, .int, .int], returnType := some (.object "java/lang/String") }, accessFlags := 10, code := some k1c1 }
def k1c2 : Code := { maxStack := 4, maxLocals := 17, code := code, exceptionTable := #[], attributes := #[] }
def k1m2 : Method := { name := "law", desc := "(IIIIIJ)Z", sig := { parameters := [.int, .int, .int, .int, .int, .long], returnType := some .boolean }, accessFlags := 9, code := some k1c2 }
/-- com/example/tidewire/tidewire/rpc/ProviderAddressOfPinLaw -/
def k1 : Class := { plain "com/example/tidewire/tidewire/rpc/ProviderAddressOfPinLaw" (some 0) with
  accessFlags := 49
  interfaces := #[]
  cf := some (fileOf pool1 13 #[] #[{ accessFlags := 2, nameIndex := 5, descriptorIndex := 6, attributes := #[] }, { accessFlags := 10, nameIndex := 16, descriptorIndex := 17, attributes := #[] }, { accessFlags := 9, nameIndex := 57, descriptorIndex := 58, attributes := #[] }] 49 2 #[] #[])
  fields := #[]
  methods := #[k1m0, k1m1, k1m2]
  instanceTypes := #[]
  staticTypes := #[]
  resolved := Array.replicate 61 none
  statics := none }

def pool2 : Array CpInfo := pool [(1, .class_ 2), (0, u "java/io/Serializable"), (0, .class_ 4), (0, u "java/lang/Object")] 2

/-- java/io/Serializable -/
def k2 : Class := { plain "java/io/Serializable" (some 0) with
  accessFlags := 1537
  interfaces := #[]
  cf := some (fileOf pool2 1 #[] #[] 1537 3 #[] #[])
  fields := #[]
  methods := #[]
  instanceTypes := #[]
  staticTypes := #[]
  resolved := Array.replicate 7 none
  statics := none }

def pool3 : Array CpInfo := pool [(1, .class_ 2), (0, u "java/lang/Comparable"), (0, .class_ 4), (0, u "java/lang/Object")] 7

/-- java/lang/Comparable -/
def k3 : Class := { plain "java/lang/Comparable" (some 0) with
  accessFlags := 1537
  interfaces := #[]
  cf := some (fileOf pool3 1 #[] #[] 1537 3 #[] #[])
  fields := #[]
  methods := #[]
  instanceTypes := #[]
  staticTypes := #[]
  resolved := Array.replicate 12 none
  statics := none }

def pool4 : Array CpInfo := pool [(2, .class_ 4), (1, u "java/lang/CharSequence"), (42, .class_ 48), (0, u "java/lang/CharSequence$1CodePointIterator"), (10, .class_ 60), (0, u "java/lang/CharSequence$1CharIterator"), (5, .class_ 67), (0, u "java/lang/Object")] 63

/-- java/lang/CharSequence -/
def k4 : Class := { plain "java/lang/CharSequence" (some 0) with
  accessFlags := 1537
  interfaces := #[]
  cf := some (fileOf pool4 2 #[.nestMembers #[47, 59]] #[] 1537 66 #[] #[])
  fields := #[]
  methods := #[]
  instanceTypes := #[]
  staticTypes := #[]
  resolved := Array.replicate 131 none
  statics := none }

def pool5 : Array CpInfo := pool [(1, .class_ 2), (0, u "java/lang/constant/Constable"), (0, .class_ 4), (0, u "java/lang/Object")] 6

/-- java/lang/constant/Constable -/
def k5 : Class := { plain "java/lang/constant/Constable" (some 0) with
  accessFlags := 1537
  interfaces := #[]
  cf := some (fileOf pool5 1 #[] #[] 1537 3 #[] #[])
  fields := #[]
  methods := #[]
  instanceTypes := #[]
  staticTypes := #[]
  resolved := Array.replicate 11 none
  statics := none }

def pool6 : Array CpInfo := pool [(1, .class_ 2), (0, u "java/lang/constant/ConstantDesc"), (0, .class_ 4), (0, u "java/lang/Object")] 32

/-- java/lang/constant/ConstantDesc -/
def k6 : Class := { plain "java/lang/constant/ConstantDesc" (some 0) with
  accessFlags := 1537
  interfaces := #[]
  cf := some (fileOf pool6 1 #[] #[] 1537 3 #[] #[])
  fields := #[]
  methods := #[]
  instanceTypes := #[]
  staticTypes := #[]
  resolved := Array.replicate 37 none
  statics := none }

def pool7 : Array CpInfo := pool [(1, .methodref 2 3), (0, .class_ 4), (0, .nameAndType 5 6), (0, u "java/lang/Object"), (0, u "<init>"), (0, u "()V"), (0, .string 8), (0, u ""), (0, .fieldref 10 11), (0, .class_ 12), (0, .nameAndType 13 14), (0, u "java/lang/String"), (0, u "value"), (0, u "[B"), (0, .fieldref 10 16), (0, .nameAndType 17 18), (0, u "coder"), (0, u "B"), (2, u "hash"), (0, u "I"), (2, u "hashIsZero"), (0, u "Z"), (0, .methodref 10 28), (0, .nameAndType 5 29), (0, u "([CIILjava/lang/Void;)V"), (8, .fieldref 10 39), (0, .nameAndType 40 26), (0, u "COMPACT_STRINGS"), (1, .class_ 44), (1, u "java/lang/StringUTF16"), (0, u "compress"), (1, .methodref 42 48), (0, .nameAndType 49 50), (0, u "coderFromArrayLen"), (0, u "([BI)B"), (126, .methodref 42 178), (0, .nameAndType 45 179), (0, u "([CII)[B"), (363, u "equals"), (29, u "(Ljava/lang/Object;)Z"), (1, .class_ 576), (0, u "java/lang/CharSequence"), (22, u "CASE_INSENSITIVE_ORDER"), (0, u "Ljava/util/Comparator;"), (409, u "([C)V"), (90, u "serialPersistentFields"), (0, u "[Ljava/io/ObjectStreamField;"), (0, .class_ 1104), (0, u "java/lang/String$CaseInsensitiveComparator"), (1, .class_ 1107), (0, u "java/io/Serializable"), (0, .class_ 1109), (0, u "java/lang/Comparable"), (0, .class_ 1111), (0, u "java/lang/constant/Constable"), (0, .class_ 1113), (0, u "java/lang/constant/ConstantDesc"), (2, u "serialVersionUID"), (0, u "J"), (3, u "REPL"), (0, u "C"), (2, u "LATIN1"), (1, u "UTF16")] 323

def k7m0 : Method := { name := "<init>", desc := "()V", sig := { parameters := [], returnType := none }, accessFlags := 1, code := none }
def k7c1 : Code := { maxStack := 5, maxLocals := 2, code := jdk_42_method_3_code, exceptionTable := #[], attributes := #[] }
def k7m1 : Method := { name := "<init>", desc := "([C)V", sig := { parameters := [(.array .char)], returnType := none }, accessFlags := 1, code := some k7c1 }
def k7c2 : Code := { maxStack := 2, maxLocals := 3, code := jdk_42_method_66_code, exceptionTable := #[], attributes := #[] }
def k7m2 : Method := { name := "equals", desc := "(Ljava/lang/Object;)Z", sig := { parameters := [(.object "java/lang/Object")], returnType := some .boolean }, accessFlags := 1, code := some k7c2 }
def k7c3 : Code := { maxStack := 4, maxLocals := 6, code := jdk_42_method_149_code, exceptionTable := #[], attributes := #[] }
def k7m3 : Method := { name := "<init>", desc := "([CIILjava/lang/Void;)V", sig := { parameters := [(.array .char), .int, .int, (.object "java/lang/Void")], returnType := none }, accessFlags := 2, code := some k7c3 }
/-- java/lang/String -/
def k7 : Class := { plain "java/lang/String" (some 0) with
  accessFlags := 49
  interfaces := #[2, 3, 4, 5, 6]
  cf := some (fileOf pool7 10 #[.nestMembers #[1103]] #[{ accessFlags := 1, nameIndex := 5, descriptorIndex := 6, attributes := #[] }, { accessFlags := 1, nameIndex := 5, descriptorIndex := 1010, attributes := #[] }, { accessFlags := 1, nameIndex := 543, descriptorIndex := 573, attributes := #[] }, { accessFlags := 2, nameIndex := 5, descriptorIndex := 29, attributes := #[] }] 49 2 #[1106, 1108, 575, 1110, 1112] #[{ accessFlags := 18, nameIndex := 13, descriptorIndex := 14, attributes := #[] }, { accessFlags := 18, nameIndex := 17, descriptorIndex := 18, attributes := #[] }, { accessFlags := 2, nameIndex := 21, descriptorIndex := 22, attributes := #[] }, { accessFlags := 2, nameIndex := 25, descriptorIndex := 26, attributes := #[] }, { accessFlags := 26, nameIndex := 1116, descriptorIndex := 1117, attributes := #[] }, { accessFlags := 24, nameIndex := 40, descriptorIndex := 26, attributes := #[] }, { accessFlags := 26, nameIndex := 1101, descriptorIndex := 1102, attributes := #[] }, { accessFlags := 26, nameIndex := 1121, descriptorIndex := 1122, attributes := #[] }, { accessFlags := 25, nameIndex := 599, descriptorIndex := 600, attributes := #[] }, { accessFlags := 24, nameIndex := 1125, descriptorIndex := 18, attributes := #[] }, { accessFlags := 24, nameIndex := 1127, descriptorIndex := 18, attributes := #[] }])
  fields := #[{ name := "value", type := (.array .byte), accessFlags := 18, slot := 0, constantValue := 0 }, { name := "coder", type := .byte, accessFlags := 18, slot := 1, constantValue := 0 }, { name := "hash", type := .int, accessFlags := 2, slot := 2, constantValue := 0 }, { name := "hashIsZero", type := .boolean, accessFlags := 2, slot := 3, constantValue := 0 }, { name := "serialVersionUID", type := .long, accessFlags := 26, slot := 0, constantValue := 0 }, { name := "COMPACT_STRINGS", type := .boolean, accessFlags := 24, slot := 1, constantValue := 0 }, { name := "serialPersistentFields", type := (.array (.object "java/io/ObjectStreamField")), accessFlags := 26, slot := 2, constantValue := 0 }, { name := "REPL", type := .char, accessFlags := 26, slot := 3, constantValue := 0 }, { name := "CASE_INSENSITIVE_ORDER", type := (.object "java/util/Comparator"), accessFlags := 25, slot := 4, constantValue := 0 }, { name := "LATIN1", type := .byte, accessFlags := 24, slot := 5, constantValue := 0 }, { name := "UTF16", type := .byte, accessFlags := 24, slot := 6, constantValue := 0 }]
  methods := #[k7m0, k7m1, k7m2, k7m3]
  instanceTypes := #[(.array .byte), .byte, .int, .boolean]
  staticTypes := #[.long, .boolean, (.array (.object "java/io/ObjectStreamField")), .char, (.object "java/util/Comparator"), .byte, .byte]
  resolved := Array.replicate 1451 none
  statics := some 0 }

def pool8 : Array CpInfo := pool [(6, .class_ 8), (1, u "java/lang/Object"), (0, u "<init>"), (0, u "()V"), (1, .class_ 14), (1, u "java/lang/StringUTF16"), (31, u "$assertionsDisabled"), (0, u "Z"), (13, u "HI_BYTE_SHIFT"), (0, u "I"), (2, u "LO_BYTE_SHIFT"), (49, .methodref 12 116), (0, .nameAndType 117 118), (0, u "compress"), (0, u "([CI[BII)I"), (3, u "([CII)[B"), (138, u "coderFromArrayLen"), (0, u "([BI)B"), (106, .class_ 371), (1, u "java/lang/StringUTF16$LinesSpliterator"), (58, u "MAX_LENGTH"), (196, .class_ 628), (0, u "java/lang/StringUTF16$CodePointsSpliterator"), (0, .class_ 630), (0, u "java/lang/StringUTF16$CharsSpliterator")] 4

def k8m0 : Method := { name := "<init>", desc := "()V", sig := { parameters := [], returnType := none }, accessFlags := 0, code := none }
def k8c1 : Code := { maxStack := 2, maxLocals := 2, code := jdk_52_method_15_code, exceptionTable := #[], attributes := #[] }
def k8m1 : Method := { name := "coderFromArrayLen", desc := "([BI)B", sig := { parameters := [(.array .byte), .int], returnType := some .byte }, accessFlags := 8, code := some k8c1 }
def k8c2 : Code := { maxStack := 5, maxLocals := 6, code := jdk_52_method_16_code, exceptionTable := #[], attributes := #[] }
def k8m2 : Method := { name := "compress", desc := "([CII)[B", sig := { parameters := [(.array .char), .int, .int], returnType := some (.array .byte) }, accessFlags := 9, code := some k8c2 }
def k8c3 : Code := { maxStack := 3, maxLocals := 7, code := jdk_52_method_21_code, exceptionTable := #[], attributes := #[] }
def k8m3 : Method := { name := "compress", desc := "([CI[BII)I", sig := { parameters := [(.array .char), .int, (.array .byte), .int, .int], returnType := some .int }, accessFlags := 9, code := some k8c3 }
/-- java/lang/StringUTF16 -/
def k8 : Class := { plain "java/lang/StringUTF16" (some 0) with
  accessFlags := 48
  interfaces := #[]
  cf := some (fileOf pool8 12 #[.nestMembers #[627, 629, 369]] #[{ accessFlags := 0, nameIndex := 9, descriptorIndex := 10, attributes := #[] }, { accessFlags := 8, nameIndex := 261, descriptorIndex := 262, attributes := #[] }, { accessFlags := 9, nameIndex := 117, descriptorIndex := 122, attributes := #[] }, { accessFlags := 9, nameIndex := 117, descriptorIndex := 118, attributes := #[] }] 48 6 #[] #[{ accessFlags := 26, nameIndex := 61, descriptorIndex := 62, attributes := #[] }, { accessFlags := 26, nameIndex := 65, descriptorIndex := 62, attributes := #[] }, { accessFlags := 24, nameIndex := 430, descriptorIndex := 62, attributes := #[] }, { accessFlags := 4120, nameIndex := 46, descriptorIndex := 47, attributes := #[] }])
  fields := #[{ name := "HI_BYTE_SHIFT", type := .int, accessFlags := 26, slot := 0, constantValue := 0 }, { name := "LO_BYTE_SHIFT", type := .int, accessFlags := 26, slot := 1, constantValue := 0 }, { name := "MAX_LENGTH", type := .int, accessFlags := 24, slot := 2, constantValue := 0 }, { name := "$assertionsDisabled", type := .boolean, accessFlags := 4120, slot := 3, constantValue := 0 }]
  methods := #[k8m0, k8m1, k8m2, k8m3]
  instanceTypes := #[]
  staticTypes := #[.int, .int, .int, .boolean]
  resolved := Array.replicate 635 none
  statics := none }

def pool9 : Array CpInfo := pool [(1, .methodref 2 3), (0, .class_ 4), (0, .nameAndType 5 6), (0, u "java/lang/Object"), (0, u "<init>"), (0, u "()V"), (0, .class_ 8), (0, u "java/lang/Record")] 13

def k9c0 : Code := { maxStack := 1, maxLocals := 1, code := jdk_30_method_1_code, exceptionTable := #[], attributes := #[] }
def k9m0 : Method := { name := "<init>", desc := "()V", sig := { parameters := [], returnType := none }, accessFlags := 4, code := some k9c0 }
/-- java/lang/Record -/
def k9 : Class := { plain "java/lang/Record" (some 0) with
  accessFlags := 1057
  interfaces := #[]
  cf := some (fileOf pool9 7 #[] #[{ accessFlags := 4, nameIndex := 5, descriptorIndex := 6, attributes := #[] }] 1057 2 #[] #[])
  fields := #[]
  methods := #[k9m0]
  instanceTypes := #[]
  staticTypes := #[]
  resolved := Array.replicate 22 none
  statics := none }

def pool10 : Array CpInfo := pool [(1, .methodref 2 3), (0, .class_ 4), (0, .nameAndType 5 6), (0, u "java/lang/Record"), (0, u "<init>"), (0, u "()V"), (0, .fieldref 8 9), (0, .class_ 10), (0, .nameAndType 11 12), (0, u "com/example/tidewire/tidewire/rpc/ProviderAddress"), (0, u "host"), (0, u "Ljava/lang/String;"), (0, .fieldref 8 14), (0, .nameAndType 15 16), (0, u "port"), (0, u "I"), (0, .fieldref 8 18), (0, .nameAndType 19 16), (0, u "weight"), (0, .fieldref 8 21), (0, .nameAndType 22 16), (0, u "warmupMillis"), (0, .fieldref 8 24), (0, .nameAndType 25 26), (0, u "startMillis"), (0, u "J"), (0, .integer 600000), (0, .methodref 8 29), (0, .nameAndType 5 30), (0, u "(Ljava/lang/String;IIIJ)V"), (4, u "()I"), (3, u "()Ljava/lang/String;"), (75, u "WEIGHING"), (0, u "Ljava/util/Set;"), (29, .methodref 147 148), (0, .class_ 149), (0, .nameAndType 150 151), (0, u "java/lang/Math"), (0, u "max"), (0, u "(JJ)J"), (31, u "of"), (1, u "DEFAULT_WEIGHT"), (2, u "DEFAULT_WARMUP_MILLIS"), (5, u "(Ljava/lang/String;I)Lcom/example/tidewire/tidewire/rpc/ProviderAddress;"), (3, u "weightAt"), (0, u "(J)I"), (0, u "()J")] 41

def k10c0 : Code := { maxStack := 3, maxLocals := 7, code := prog_29_method_1_code, exceptionTable := #[], attributes := #[] }
def k10m0 : Method := { name := "<init>", desc := "(Ljava/lang/String;IIIJ)V", sig := { parameters := [(.object "java/lang/String"), .int, .int, .int, .long], returnType := none }, accessFlags := 0, code := some k10c0 }
def k10c1 : Code := { maxStack := 8, maxLocals := 2, code := prog_29_method_2_code, exceptionTable := #[], attributes := #[] }
def k10m1 : Method := { name := "of", desc := "(Ljava/lang/String;I)Lcom/example/tidewire/tidewire/rpc/ProviderAddress;", sig := { parameters := [(.object "java/lang/String"), .int], returnType := some (.object "com/example/tidewire/tidewire/rpc/ProviderAddress") }, accessFlags := 8, code := some k10c1 }
def k10c2 : Code := { maxStack := 6, maxLocals := 5, code := prog_29_method_6_code, exceptionTable := #[], attributes := #[] }
def k10m2 : Method := { name := "weightAt", desc := "(J)I", sig := { parameters := [.long], returnType := some .int }, accessFlags := 0, code := some k10c2 }
def k10c3 : Code := { maxStack := 1, maxLocals := 1, code := prog_29_method_13_code, exceptionTable := #[], attributes := #[] }
def k10m3 : Method := { name := "host", desc := "()Ljava/lang/String;", sig := { parameters := [], returnType := some (.object "java/lang/String") }, accessFlags := 1, code := some k10c3 }
def k10c4 : Code := { maxStack := 1, maxLocals := 1, code := prog_29_method_14_code, exceptionTable := #[], attributes := #[] }
def k10m4 : Method := { name := "port", desc := "()I", sig := { parameters := [], returnType := some .int }, accessFlags := 1, code := some k10c4 }
def k10c5 : Code := { maxStack := 1, maxLocals := 1, code := prog_29_method_15_code, exceptionTable := #[], attributes := #[] }
def k10m5 : Method := { name := "weight", desc := "()I", sig := { parameters := [], returnType := some .int }, accessFlags := 1, code := some k10c5 }
def k10c6 : Code := { maxStack := 1, maxLocals := 1, code := prog_29_method_16_code, exceptionTable := #[], attributes := #[] }
def k10m6 : Method := { name := "warmupMillis", desc := "()I", sig := { parameters := [], returnType := some .int }, accessFlags := 1, code := some k10c6 }
def k10c7 : Code := { maxStack := 2, maxLocals := 1, code := prog_29_method_17_code, exceptionTable := #[], attributes := #[] }
def k10m7 : Method := { name := "startMillis", desc := "()J", sig := { parameters := [], returnType := some .long }, accessFlags := 1, code := some k10c7 }
/-- com/example/tidewire/tidewire/rpc/ProviderAddress -/
def k10 : Class := { plain "com/example/tidewire/tidewire/rpc/ProviderAddress" (some 9) with
  accessFlags := 48
  interfaces := #[]
  cf := some (fileOf pool10 8 #[] #[{ accessFlags := 0, nameIndex := 5, descriptorIndex := 30, attributes := #[] }, { accessFlags := 8, nameIndex := 183, descriptorIndex := 194, attributes := #[] }, { accessFlags := 0, nameIndex := 198, descriptorIndex := 199, attributes := #[] }, { accessFlags := 1, nameIndex := 11, descriptorIndex := 39, attributes := #[] }, { accessFlags := 1, nameIndex := 15, descriptorIndex := 35, attributes := #[] }, { accessFlags := 1, nameIndex := 19, descriptorIndex := 35, attributes := #[] }, { accessFlags := 1, nameIndex := 22, descriptorIndex := 35, attributes := #[] }, { accessFlags := 1, nameIndex := 25, descriptorIndex := 200, attributes := #[] }] 48 2 #[] #[{ accessFlags := 18, nameIndex := 11, descriptorIndex := 12, attributes := #[] }, { accessFlags := 18, nameIndex := 15, descriptorIndex := 16, attributes := #[] }, { accessFlags := 18, nameIndex := 19, descriptorIndex := 16, attributes := #[] }, { accessFlags := 18, nameIndex := 22, descriptorIndex := 16, attributes := #[] }, { accessFlags := 18, nameIndex := 25, descriptorIndex := 26, attributes := #[] }, { accessFlags := 24, nameIndex := 185, descriptorIndex := 16, attributes := #[] }, { accessFlags := 24, nameIndex := 188, descriptorIndex := 16, attributes := #[] }, { accessFlags := 26, nameIndex := 115, descriptorIndex := 116, attributes := #[] }])
  fields := #[{ name := "host", type := (.object "java/lang/String"), accessFlags := 18, slot := 0, constantValue := 0 }, { name := "port", type := .int, accessFlags := 18, slot := 1, constantValue := 0 }, { name := "weight", type := .int, accessFlags := 18, slot := 2, constantValue := 0 }, { name := "warmupMillis", type := .int, accessFlags := 18, slot := 3, constantValue := 0 }, { name := "startMillis", type := .long, accessFlags := 18, slot := 4, constantValue := 0 }, { name := "DEFAULT_WEIGHT", type := .int, accessFlags := 24, slot := 0, constantValue := 0 }, { name := "DEFAULT_WARMUP_MILLIS", type := .int, accessFlags := 24, slot := 1, constantValue := 0 }, { name := "WEIGHING", type := (.object "java/util/Set"), accessFlags := 26, slot := 2, constantValue := 0 }]
  methods := #[k10m0, k10m1, k10m2, k10m3, k10m4, k10m5, k10m6, k10m7]
  instanceTypes := #[(.object "java/lang/String"), .int, .int, .int, .long]
  staticTypes := #[.int, .int, (.object "java/util/Set")]
  resolved := Array.replicate 242 none
  statics := none }

def pool11 : Array CpInfo := pool [(1, .class_ 2), (0, u "java/lang/Math"), (1, .class_ 6), (1, u "java/lang/Object"), (0, u "<init>"), (0, u "()V"), (89, .class_ 100), (1, u "java/lang/Math$RandomNumberGeneratorHolder"), (20, u "(JJ)J"), (50, u "negativeZeroFloatBits"), (0, u "J"), (2, u "negativeZeroDoubleBits"), (21, u "max"), (46, u "$assertionsDisabled"), (0, u "Z"), (91, u "twoToTheDoubleScaleDown"), (0, u "D"), (4, u "twoToTheDoubleScaleUp"), (9, u "E"), (3, u "PI"), (2, u "TAU"), (2, u "DEGREES_TO_RADIANS"), (0, u "RADIANS_TO_DEGREES")] 94

def k11m0 : Method := { name := "<init>", desc := "()V", sig := { parameters := [], returnType := none }, accessFlags := 2, code := none }
def k11c1 : Code := { maxStack := 4, maxLocals := 4, code := jdk_29_method_66_code, exceptionTable := #[], attributes := #[] }
def k11m1 : Method := { name := "max", desc := "(JJ)J", sig := { parameters := [.long, .long], returnType := some .long }, accessFlags := 9, code := some k11c1 }
/-- java/lang/Math -/
def k11 : Class := { plain "java/lang/Math" (some 0) with
  accessFlags := 49
  interfaces := #[]
  cf := some (fileOf pool11 1 #[.nestMembers #[98]] #[{ accessFlags := 2, nameIndex := 7, descriptorIndex := 8, attributes := #[] }, { accessFlags := 9, nameIndex := 198, descriptorIndex := 121, attributes := #[] }] 49 4 #[] #[{ accessFlags := 25, nameIndex := 354, descriptorIndex := 339, attributes := #[] }, { accessFlags := 25, nameIndex := 358, descriptorIndex := 339, attributes := #[] }, { accessFlags := 25, nameIndex := 361, descriptorIndex := 339, attributes := #[] }, { accessFlags := 26, nameIndex := 364, descriptorIndex := 339, attributes := #[] }, { accessFlags := 26, nameIndex := 365, descriptorIndex := 339, attributes := #[] }, { accessFlags := 26, nameIndex := 172, descriptorIndex := 173, attributes := #[] }, { accessFlags := 26, nameIndex := 176, descriptorIndex := 173, attributes := #[] }, { accessFlags := 8, nameIndex := 344, descriptorIndex := 339, attributes := #[] }, { accessFlags := 8, nameIndex := 338, descriptorIndex := 339, attributes := #[] }, { accessFlags := 4120, nameIndex := 245, descriptorIndex := 246, attributes := #[] }])
  fields := #[{ name := "E", type := .double, accessFlags := 25, slot := 0, constantValue := 0 }, { name := "PI", type := .double, accessFlags := 25, slot := 1, constantValue := 0 }, { name := "TAU", type := .double, accessFlags := 25, slot := 2, constantValue := 0 }, { name := "DEGREES_TO_RADIANS", type := .double, accessFlags := 26, slot := 3, constantValue := 0 }, { name := "RADIANS_TO_DEGREES", type := .double, accessFlags := 26, slot := 4, constantValue := 0 }, { name := "negativeZeroFloatBits", type := .long, accessFlags := 26, slot := 5, constantValue := 0 }, { name := "negativeZeroDoubleBits", type := .long, accessFlags := 26, slot := 6, constantValue := 0 }, { name := "twoToTheDoubleScaleUp", type := .double, accessFlags := 8, slot := 7, constantValue := 0 }, { name := "twoToTheDoubleScaleDown", type := .double, accessFlags := 8, slot := 8, constantValue := 0 }, { name := "$assertionsDisabled", type := .boolean, accessFlags := 4120, slot := 9, constantValue := 0 }]
  methods := #[k11m0, k11m1]
  instanceTypes := #[]
  staticTypes := #[.double, .double, .double, .double, .double, .long, .long, .double, .double, .boolean]
  resolved := Array.replicate 460 none
  statics := none }

def pool12 : Array CpInfo := pool [(4, .class_ 6), (1, u "java/lang/Object"), (0, u "<init>"), (0, u "()V"), (5, .class_ 16), (1, u "java/lang/StringLatin1"), (104, u "$assertionsDisabled"), (0, u "Z"), (98, .class_ 223), (1, u "java/lang/StringLatin1$LinesSpliterator"), (166, .class_ 391), (0, u "java/lang/StringLatin1$CharsSpliterator")] 3

def k12m0 : Method := { name := "<init>", desc := "()V", sig := { parameters := [], returnType := none }, accessFlags := 0, code := none }
/-- java/lang/StringLatin1 -/
def k12 : Class := { plain "java/lang/StringLatin1" (some 0) with
  accessFlags := 48
  interfaces := #[]
  cf := some (fileOf pool12 14 #[.nestMembers #[390, 221]] #[{ accessFlags := 0, nameIndex := 7, descriptorIndex := 8, attributes := #[] }] 48 4 #[] #[{ accessFlags := 4120, nameIndex := 121, descriptorIndex := 122, attributes := #[] }])
  fields := #[{ name := "$assertionsDisabled", type := .boolean, accessFlags := 4120, slot := 0, constantValue := 0 }]
  methods := #[k12m0]
  instanceTypes := #[]
  staticTypes := #[.boolean]
  resolved := Array.replicate 395 none
  statics := none }

def pool13 : Array CpInfo := pool [(2, .class_ 4), (1, u "java/lang/Object"), (0, u "<init>"), (0, u "()V"), (17, .class_ 26), (1, u "jdk/internal/util/Preconditions"), (28, .class_ 56), (0, u "jdk/internal/util/Preconditions$4"), (57, .class_ 115), (0, u "jdk/internal/util/Preconditions$1"), (7, u "SIOOBE_FORMATTER"), (0, u "Ljava/util/function/BiFunction;"), (0, .class_ 126), (0, u "jdk/internal/util/Preconditions$2"), (3, u "AIOOBE_FORMATTER"), (0, .class_ 132), (0, u "jdk/internal/util/Preconditions$3"), (3, u "IOOBE_FORMATTER")] 57

def k13m0 : Method := { name := "<init>", desc := "()V", sig := { parameters := [], returnType := none }, accessFlags := 1, code := none }
/-- jdk/internal/util/Preconditions -/
def k13 : Class := { plain "jdk/internal/util/Preconditions" (some 0) with
  accessFlags := 33
  interfaces := #[]
  cf := some (fileOf pool13 24 #[.nestMembers #[55, 131, 125, 114]] #[{ accessFlags := 1, nameIndex := 5, descriptorIndex := 6, attributes := #[] }] 33 2 #[] #[{ accessFlags := 25, nameIndex := 123, descriptorIndex := 124, attributes := #[] }, { accessFlags := 25, nameIndex := 130, descriptorIndex := 124, attributes := #[] }, { accessFlags := 25, nameIndex := 136, descriptorIndex := 124, attributes := #[] }])
  fields := #[{ name := "SIOOBE_FORMATTER", type := (.object "java/util/function/BiFunction"), accessFlags := 25, slot := 0, constantValue := 0 }, { name := "AIOOBE_FORMATTER", type := (.object "java/util/function/BiFunction"), accessFlags := 25, slot := 1, constantValue := 0 }, { name := "IOOBE_FORMATTER", type := (.object "java/util/function/BiFunction"), accessFlags := 25, slot := 2, constantValue := 0 }]
  methods := #[k13m0]
  instanceTypes := #[]
  staticTypes := #[(.object "java/util/function/BiFunction"), (.object "java/util/function/BiFunction"), (.object "java/util/function/BiFunction")]
  resolved := Array.replicate 194 none
  statics := some 1 }

def pool14 : Array CpInfo := pool [(9, u "<init>"), (6, .class_ 18), (1, u "java/lang/Object"), (0, u "()V"), (1, .class_ 23), (1, u "jdk/internal/util/ArraysSupport"), (0, u "LOG2_ARRAY_LONG_INDEX_SCALE"), (0, u "I"), (2, u "U"), (0, u "Ljdk/internal/misc/Unsafe;"), (8, u "BIG_ENDIAN"), (0, u "Z"), (8, u "LOG2_BYTE_BIT_SIZE"), (4, u "LOG2_ARRAY_INT_INDEX_SCALE"), (54, u "JLA"), (0, u "Ljdk/internal/access/JavaLangAccess;"), (11, u "LOG2_ARRAY_BOOLEAN_INDEX_SCALE"), (9, u "LOG2_ARRAY_BYTE_INDEX_SCALE"), (5, u "LOG2_ARRAY_CHAR_INDEX_SCALE"), (5, u "LOG2_ARRAY_SHORT_INDEX_SCALE"), (18, u "LOG2_ARRAY_FLOAT_INDEX_SCALE"), (24, u "LOG2_ARRAY_DOUBLE_INDEX_SCALE"), (89, u "T_BOOLEAN"), (2, u "T_CHAR"), (1, u "T_FLOAT"), (1, u "T_DOUBLE"), (1, u "T_BYTE"), (1, u "T_SHORT"), (1, u "T_INT"), (1, u "T_LONG"), (1, u "SOFT_MAX_ARRAY_LENGTH")] 83

def k14m0 : Method := { name := "<init>", desc := "()V", sig := { parameters := [], returnType := none }, accessFlags := 2, code := none }
/-- jdk/internal/util/ArraysSupport -/
def k14 : Class := { plain "jdk/internal/util/ArraysSupport" (some 0) with
  accessFlags := 33
  interfaces := #[]
  cf := some (fileOf pool14 21 #[] #[{ accessFlags := 2, nameIndex := 9, descriptorIndex := 19, attributes := #[] }] 33 16 #[] #[{ accessFlags := 24, nameIndex := 28, descriptorIndex := 29, attributes := #[] }, { accessFlags := 26, nameIndex := 38, descriptorIndex := 39, attributes := #[] }, { accessFlags := 25, nameIndex := 121, descriptorIndex := 25, attributes := #[] }, { accessFlags := 25, nameIndex := 131, descriptorIndex := 25, attributes := #[] }, { accessFlags := 25, nameIndex := 137, descriptorIndex := 25, attributes := #[] }, { accessFlags := 25, nameIndex := 143, descriptorIndex := 25, attributes := #[] }, { accessFlags := 25, nameIndex := 53, descriptorIndex := 25, attributes := #[] }, { accessFlags := 25, nameIndex := 24, descriptorIndex := 25, attributes := #[] }, { accessFlags := 25, nameIndex := 162, descriptorIndex := 25, attributes := #[] }, { accessFlags := 25, nameIndex := 187, descriptorIndex := 25, attributes := #[] }, { accessFlags := 26, nameIndex := 48, descriptorIndex := 25, attributes := #[] }, { accessFlags := 25, nameIndex := 277, descriptorIndex := 25, attributes := #[] }, { accessFlags := 25, nameIndex := 280, descriptorIndex := 25, attributes := #[] }, { accessFlags := 25, nameIndex := 282, descriptorIndex := 25, attributes := #[] }, { accessFlags := 25, nameIndex := 284, descriptorIndex := 25, attributes := #[] }, { accessFlags := 25, nameIndex := 286, descriptorIndex := 25, attributes := #[] }, { accessFlags := 25, nameIndex := 288, descriptorIndex := 25, attributes := #[] }, { accessFlags := 25, nameIndex := 290, descriptorIndex := 25, attributes := #[] }, { accessFlags := 25, nameIndex := 292, descriptorIndex := 25, attributes := #[] }, { accessFlags := 26, nameIndex := 108, descriptorIndex := 109, attributes := #[] }, { accessFlags := 25, nameIndex := 294, descriptorIndex := 25, attributes := #[] }])
  fields := #[{ name := "U", type := (.object "jdk/internal/misc/Unsafe"), accessFlags := 24, slot := 0, constantValue := 0 }, { name := "BIG_ENDIAN", type := .boolean, accessFlags := 26, slot := 1, constantValue := 0 }, { name := "LOG2_ARRAY_BOOLEAN_INDEX_SCALE", type := .int, accessFlags := 25, slot := 2, constantValue := 0 }, { name := "LOG2_ARRAY_BYTE_INDEX_SCALE", type := .int, accessFlags := 25, slot := 3, constantValue := 0 }, { name := "LOG2_ARRAY_CHAR_INDEX_SCALE", type := .int, accessFlags := 25, slot := 4, constantValue := 0 }, { name := "LOG2_ARRAY_SHORT_INDEX_SCALE", type := .int, accessFlags := 25, slot := 5, constantValue := 0 }, { name := "LOG2_ARRAY_INT_INDEX_SCALE", type := .int, accessFlags := 25, slot := 6, constantValue := 0 }, { name := "LOG2_ARRAY_LONG_INDEX_SCALE", type := .int, accessFlags := 25, slot := 7, constantValue := 0 }, { name := "LOG2_ARRAY_FLOAT_INDEX_SCALE", type := .int, accessFlags := 25, slot := 8, constantValue := 0 }, { name := "LOG2_ARRAY_DOUBLE_INDEX_SCALE", type := .int, accessFlags := 25, slot := 9, constantValue := 0 }, { name := "LOG2_BYTE_BIT_SIZE", type := .int, accessFlags := 26, slot := 10, constantValue := 0 }, { name := "T_BOOLEAN", type := .int, accessFlags := 25, slot := 11, constantValue := 0 }, { name := "T_CHAR", type := .int, accessFlags := 25, slot := 12, constantValue := 0 }, { name := "T_FLOAT", type := .int, accessFlags := 25, slot := 13, constantValue := 0 }, { name := "T_DOUBLE", type := .int, accessFlags := 25, slot := 14, constantValue := 0 }, { name := "T_BYTE", type := .int, accessFlags := 25, slot := 15, constantValue := 0 }, { name := "T_SHORT", type := .int, accessFlags := 25, slot := 16, constantValue := 0 }, { name := "T_INT", type := .int, accessFlags := 25, slot := 17, constantValue := 0 }, { name := "T_LONG", type := .int, accessFlags := 25, slot := 18, constantValue := 0 }, { name := "JLA", type := (.object "jdk/internal/access/JavaLangAccess"), accessFlags := 26, slot := 19, constantValue := 0 }, { name := "SOFT_MAX_ARRAY_LENGTH", type := .int, accessFlags := 25, slot := 20, constantValue := 0 }]
  methods := #[k14m0]
  instanceTypes := #[]
  staticTypes := #[(.object "jdk/internal/misc/Unsafe"), .boolean, .int, .int, .int, .int, .int, .int, .int, .int, .int, .int, .int, .int, .int, .int, .int, .int, .int, (.object "jdk/internal/access/JavaLangAccess"), .int]
  resolved := Array.replicate 378 none
  statics := none }

def pool15 : Array CpInfo := pool [(1, u "java/lang/Cloneable"), (0, .class_ 1), (0, u "java/lang/Object"), (0, .class_ 3)] 3

/-- java/lang/Cloneable -/
def k15 : Class := { plain "java/lang/Cloneable" (some 0) with
  accessFlags := 1537
  interfaces := #[]
  cf := some (fileOf pool15 2 #[] #[] 1537 4 #[] #[])
  fields := #[]
  methods := #[]
  instanceTypes := #[]
  staticTypes := #[]
  resolved := Array.replicate 8 none
  statics := none }

/-- the primitive byte -/
def k16 : Class := { plain "byte" none with kind := .primitive 'B', accessFlags := 0x411 }
/-- [B -/
def k17 : Class := { plain "[B" (some 0) with kind := .array 16 .byte, interfaces := #[15, 2], accessFlags := 1041 }

/-- the primitive char -/
def k18 : Class := { plain "char" none with kind := .primitive 'C', accessFlags := 0x411 }
/-- [C -/
def k19 : Class := { plain "[C" (some 0) with kind := .array 18 .char, interfaces := #[15, 2], accessFlags := 1041 }

/-- the primitive int -/
def k20 : Class := { plain "int" none with kind := .primitive 'I', accessFlags := 0x411 }
/-- [I -/
def k21 : Class := { plain "[I" (some 0) with kind := .array 20 .int, interfaces := #[15, 2], accessFlags := 1041 }

def heap : Heap := #[{ cls := 7, slots := #[.long 0, .int 1, .null, .int 0, .null, .int 0, .int 0], vm := .statics 7 },
  { cls := 13, slots := #[.null, .null, .null], vm := .statics 13 }]
def classes : Array Class := #[k0, k1, k2, k3, k4, k5, k6, k7, k8, k9, k10, k11, k12, k13, k14, k15, k16, k17, k18, k19, k20, k21]
def interned : List (Array UInt16 × Addr) := []
def slotsUsed : Nat := 10
def theMethod : MethodId := ⟨1, 2⟩
def args0 : Array Value := #[.int 5, .int 7, .int 7, .int 7, .int 7, .long 7]
def aboutOver (below : List Frame) : State where
  vm := { classes := classes, interned := interned.toArray }
  heap := heap
  slotsUsed := slotsUsed
  threads := #[{ frames := .invoking theMethod args0 :: below }]
def below0 : List Frame := [.native { method := ⟨0, 0⟩, args := #[] }]
def about1 : State := aboutOver below0
def p0 : Program := .bare "" "" ""
def e0 : Env := launch0.env 0 0 0
theorem w_frames : about1.frames = Frame.invoking theMethod args0 :: below0 := rfl
set_option maxRecDepth 65536 in
theorem w_args : argsFit about1.vm theMethod args0 = true := by decide +kernel
set_option maxRecDepth 65536 in
theorem w_heap : heapFits about1 = true := by decide +kernel
set_option maxRecDepth 65536 in
theorem w_runnable : about1.curStatus? = some .runnable := by decide +kernel
set_option maxRecDepth 65536 in
theorem w_alone : about1.alone = true := by decide +kernel
set_option maxRecDepth 65536 in
theorem w_named : about1.methodNamed? x = some theMethod := by decide +kernel
set_option maxRecDepth 65536 in
theorem w_hears : about1.hears theMethod below0 = true := by decide +kernel
set_option maxRecDepth 65536 in
theorem w_ripe : about1.ripe theMethod args0 below0 = true := by decide +kernel
theorem w_running : about1.status = .running := rfl
set_option maxRecDepth 65536 in
theorem w_room : about1.hasRoom e0.platform room_1 = true :=
  launch0.hasRoom_least _ room_1 (by decide +kernel) (by decide +kernel) (by decide +kernel) (by decide +kernel) (by decide +kernel) (by decide +kernel)
theorem allAtoms_all (ts : List Jvm.Cond) (a : Array Jvm.Value) (st : Jvm.State) : (allAtoms ts).before a st = ts.all (fun c => c.before a st) := by
  induction ts with
  | nil => rfl
  | cons c t ih =>
    show (Jvm.Cond.and c (allAtoms t)).before a st = _
    rw [Jvm.Cond.before_and, ih, List.all_cons]
def words1 : List Jvm.Cond := Jvm.Cond.code x code maxLocals ret :: tables_1
/-- a 'code' word, met by the world's own term for the bytes: nothing is compared byte by byte -/
theorem code_word {y : MethodName} {bytes : ByteArray} {mx : Nat} {rt : Option FieldType} {a : Array Value} {s : State} {m : MethodId} {meth : Method} {c : Code} (h1 : s.methodNamed? y = some m) (h2 : s.vm.method? m = some meth) (h3 : meth.code = some c) (h4 : c.code = bytes)
    (h5 : (c.maxLocals == mx && c.exceptionTable.isEmpty && decide (c.maxStack ≤ mostOperands) && decide (meth.sig.returnType = rt) && !meth.locks && decide (parseMethodDescriptor y.desc = some meth.sig)) = true) : (Jvm.Cond.code y bytes mx rt).before a s = true := by
  simp only [Bool.and_eq_true, beq_iff_eq, Bool.not_eq_true', decide_eq_true_eq] at h5
  obtain ⟨⟨⟨⟨⟨g1, g2⟩, g3⟩, g4⟩, g5⟩, g6⟩ := h5
  simp [Cond.before, Cond.holds, Cond.value, h1, h2, h3, h4, g1, g2, g3, g4, g5, g6]
def isCode : Jvm.Cond → Bool
  | .code _ _ _ _ => true
  | _ => false
theorem all_split {L : List Jvm.Cond} {P : Jvm.Cond → Bool} (h1 : L.all (fun c => isCode c || P c) = true) (h2 : ∀ c ∈ L.filter isCode, P c = true) : L.all P = true := by
  refine List.all_eq_true.mpr fun c hc => ?_
  have h := List.all_eq_true.mp h1 c hc
  rcases Bool.eq_false_or_eq_true (isCode c) with hi | hi
  · exact h2 c (List.mem_filter.mpr ⟨hc, hi⟩)
  · simpa [hi] using h
set_option maxRecDepth 65536 in
theorem w_c0 : (Jvm.Cond.code x code maxLocals ret).before args0 about1 = true := code_word (m := ⟨1, 2⟩) (meth := k1m2) (c := k1c2) (by decide +kernel) rfl rfl rfl (by decide +kernel)
set_option maxRecDepth 65536 in
theorem w_c1 : (Jvm.Cond.code ({ cls := "com/example/tidewire/tidewire/rpc/ProviderAddressOfPinLaw", name := "host", desc := "(IIII)Ljava/lang/String;" } : Jvm.MethodName) method_2_code (8 : Nat) (Option.some (Jvm.ClassFile.FieldType.object "java/lang/String"))).before args0 about1 = true := code_word (m := ⟨1, 1⟩) (meth := k1m1) (c := k1c1) (by decide +kernel) rfl rfl rfl (by decide +kernel)
set_option maxRecDepth 65536 in
theorem w_c2 : (Jvm.Cond.code ({ cls := "java/lang/String", name := "<init>", desc := "([C)V" } : Jvm.MethodName) jdk_42_method_3_code (2 : Nat) (Option.none : Option Jvm.ClassFile.FieldType)).before args0 about1 = true := code_word (m := ⟨7, 1⟩) (meth := k7m1) (c := k7c1) (by decide +kernel) rfl rfl rfl (by decide +kernel)
set_option maxRecDepth 65536 in
theorem w_c3 : (Jvm.Cond.code ({ cls := "java/lang/String", name := "<init>", desc := "([CIILjava/lang/Void;)V" } : Jvm.MethodName) jdk_42_method_149_code (6 : Nat) (Option.none : Option Jvm.ClassFile.FieldType)).before args0 about1 = true := code_word (m := ⟨7, 3⟩) (meth := k7m3) (c := k7c3) (by decide +kernel) rfl rfl rfl (by decide +kernel)
set_option maxRecDepth 65536 in
theorem w_c4 : (Jvm.Cond.code ({ cls := "java/lang/Object", name := "<init>", desc := "()V" } : Jvm.MethodName) object_method_1_code (1 : Nat) (Option.none : Option Jvm.ClassFile.FieldType)).before args0 about1 = true := code_word (m := ⟨0, 0⟩) (meth := k0m0) (c := k0c0) (by decide +kernel) rfl rfl rfl (by decide +kernel)
set_option maxRecDepth 65536 in
theorem w_c5 : (Jvm.Cond.code ({ cls := "java/lang/StringUTF16", name := "compress", desc := "([CII)[B" } : Jvm.MethodName) jdk_52_method_16_code (6 : Nat) (Option.some (Jvm.ClassFile.FieldType.array Jvm.ClassFile.FieldType.byte))).before args0 about1 = true := code_word (m := ⟨8, 2⟩) (meth := k8m2) (c := k8c2) (by decide +kernel) rfl rfl rfl (by decide +kernel)
set_option maxRecDepth 65536 in
theorem w_c6 : (Jvm.Cond.code ({ cls := "java/lang/StringUTF16", name := "compress", desc := "([CI[BII)I" } : Jvm.MethodName) jdk_52_method_21_code (7 : Nat) (Option.some Jvm.ClassFile.FieldType.int)).before args0 about1 = true := code_word (m := ⟨8, 3⟩) (meth := k8m3) (c := k8c3) (by decide +kernel) rfl rfl rfl (by decide +kernel)
set_option maxRecDepth 65536 in
theorem w_c7 : (Jvm.Cond.code ({ cls := "java/lang/StringUTF16", name := "coderFromArrayLen", desc := "([BI)B" } : Jvm.MethodName) jdk_52_method_15_code (2 : Nat) (Option.some Jvm.ClassFile.FieldType.byte)).before args0 about1 = true := code_word (m := ⟨8, 1⟩) (meth := k8m1) (c := k8c1) (by decide +kernel) rfl rfl rfl (by decide +kernel)
set_option maxRecDepth 65536 in
theorem w_c8 : (Jvm.Cond.code ({ cls := "com/example/tidewire/tidewire/rpc/ProviderAddress", name := "of", desc := "(Ljava/lang/String;I)Lcom/example/tidewire/tidewire/rpc/ProviderAddress;" } : Jvm.MethodName) prog_29_method_2_code (2 : Nat) (Option.some (Jvm.ClassFile.FieldType.object "com/example/tidewire/tidewire/rpc/ProviderAddress"))).before args0 about1 = true := code_word (m := ⟨10, 1⟩) (meth := k10m1) (c := k10c1) (by decide +kernel) rfl rfl rfl (by decide +kernel)
set_option maxRecDepth 65536 in
theorem w_c9 : (Jvm.Cond.code ({ cls := "com/example/tidewire/tidewire/rpc/ProviderAddress", name := "<init>", desc := "(Ljava/lang/String;IIIJ)V" } : Jvm.MethodName) prog_29_method_1_code (7 : Nat) (Option.none : Option Jvm.ClassFile.FieldType)).before args0 about1 = true := code_word (m := ⟨10, 0⟩) (meth := k10m0) (c := k10c0) (by decide +kernel) rfl rfl rfl (by decide +kernel)
set_option maxRecDepth 65536 in
theorem w_c10 : (Jvm.Cond.code ({ cls := "java/lang/Record", name := "<init>", desc := "()V" } : Jvm.MethodName) jdk_30_method_1_code (1 : Nat) (Option.none : Option Jvm.ClassFile.FieldType)).before args0 about1 = true := code_word (m := ⟨9, 0⟩) (meth := k9m0) (c := k9c0) (by decide +kernel) rfl rfl rfl (by decide +kernel)
set_option maxRecDepth 65536 in
theorem w_c11 : (Jvm.Cond.code ({ cls := "com/example/tidewire/tidewire/rpc/ProviderAddress", name := "host", desc := "()Ljava/lang/String;" } : Jvm.MethodName) prog_29_method_13_code (1 : Nat) (Option.some (Jvm.ClassFile.FieldType.object "java/lang/String"))).before args0 about1 = true := code_word (m := ⟨10, 3⟩) (meth := k10m3) (c := k10c3) (by decide +kernel) rfl rfl rfl (by decide +kernel)
set_option maxRecDepth 65536 in
theorem w_c12 : (Jvm.Cond.code ({ cls := "java/lang/String", name := "equals", desc := "(Ljava/lang/Object;)Z" } : Jvm.MethodName) jdk_42_method_66_code (3 : Nat) (Option.some Jvm.ClassFile.FieldType.boolean)).before args0 about1 = true := code_word (m := ⟨7, 2⟩) (meth := k7m2) (c := k7c2) (by decide +kernel) rfl rfl rfl (by decide +kernel)
set_option maxRecDepth 65536 in
theorem w_c13 : (Jvm.Cond.code ({ cls := "com/example/tidewire/tidewire/rpc/ProviderAddress", name := "port", desc := "()I" } : Jvm.MethodName) prog_29_method_14_code (1 : Nat) (Option.some Jvm.ClassFile.FieldType.int)).before args0 about1 = true := code_word (m := ⟨10, 4⟩) (meth := k10m4) (c := k10c4) (by decide +kernel) rfl rfl rfl (by decide +kernel)
set_option maxRecDepth 65536 in
theorem w_c14 : (Jvm.Cond.code ({ cls := "com/example/tidewire/tidewire/rpc/ProviderAddress", name := "weight", desc := "()I" } : Jvm.MethodName) prog_29_method_15_code (1 : Nat) (Option.some Jvm.ClassFile.FieldType.int)).before args0 about1 = true := code_word (m := ⟨10, 5⟩) (meth := k10m5) (c := k10c5) (by decide +kernel) rfl rfl rfl (by decide +kernel)
set_option maxRecDepth 65536 in
theorem w_c15 : (Jvm.Cond.code ({ cls := "com/example/tidewire/tidewire/rpc/ProviderAddress", name := "warmupMillis", desc := "()I" } : Jvm.MethodName) prog_29_method_16_code (1 : Nat) (Option.some Jvm.ClassFile.FieldType.int)).before args0 about1 = true := code_word (m := ⟨10, 6⟩) (meth := k10m6) (c := k10c6) (by decide +kernel) rfl rfl rfl (by decide +kernel)
set_option maxRecDepth 65536 in
theorem w_c16 : (Jvm.Cond.code ({ cls := "com/example/tidewire/tidewire/rpc/ProviderAddress", name := "startMillis", desc := "()J" } : Jvm.MethodName) prog_29_method_17_code (1 : Nat) (Option.some Jvm.ClassFile.FieldType.long)).before args0 about1 = true := code_word (m := ⟨10, 7⟩) (meth := k10m7) (c := k10c7) (by decide +kernel) rfl rfl rfl (by decide +kernel)
set_option maxRecDepth 65536 in
theorem w_c17 : (Jvm.Cond.code ({ cls := "com/example/tidewire/tidewire/rpc/ProviderAddress", name := "weightAt", desc := "(J)I" } : Jvm.MethodName) prog_29_method_6_code (5 : Nat) (Option.some Jvm.ClassFile.FieldType.int)).before args0 about1 = true := code_word (m := ⟨10, 2⟩) (meth := k10m2) (c := k10c2) (by decide +kernel) rfl rfl rfl (by decide +kernel)
set_option maxRecDepth 65536 in
theorem w_c18 : (Jvm.Cond.code ({ cls := "java/lang/Math", name := "max", desc := "(JJ)J" } : Jvm.MethodName) jdk_29_method_66_code (4 : Nat) (Option.some Jvm.ClassFile.FieldType.long)).before args0 about1 = true := code_word (m := ⟨11, 1⟩) (meth := k11m1) (c := k11c1) (by decide +kernel) rfl rfl rfl (by decide +kernel)
def codes1 : List Jvm.Cond := [Jvm.Cond.code x code maxLocals ret, Jvm.Cond.code ({ cls := "com/example/tidewire/tidewire/rpc/ProviderAddressOfPinLaw", name := "host", desc := "(IIII)Ljava/lang/String;" } : Jvm.MethodName) method_2_code (8 : Nat) (Option.some (Jvm.ClassFile.FieldType.object "java/lang/String")), Jvm.Cond.code ({ cls := "java/lang/String", name := "<init>", desc := "([C)V" } : Jvm.MethodName) jdk_42_method_3_code (2 : Nat) (Option.none : Option Jvm.ClassFile.FieldType), Jvm.Cond.code ({ cls := "java/lang/String", name := "<init>", desc := "([CIILjava/lang/Void;)V" } : Jvm.MethodName) jdk_42_method_149_code (6 : Nat) (Option.none : Option Jvm.ClassFile.FieldType), Jvm.Cond.code ({ cls := "java/lang/Object", name := "<init>", desc := "()V" } : Jvm.MethodName) object_method_1_code (1 : Nat) (Option.none : Option Jvm.ClassFile.FieldType), Jvm.Cond.code ({ cls := "java/lang/StringUTF16", name := "compress", desc := "([CII)[B" } : Jvm.MethodName) jdk_52_method_16_code (6 : Nat) (Option.some (Jvm.ClassFile.FieldType.array Jvm.ClassFile.FieldType.byte)), Jvm.Cond.code ({ cls := "java/lang/StringUTF16", name := "compress", desc := "([CI[BII)I" } : Jvm.MethodName) jdk_52_method_21_code (7 : Nat) (Option.some Jvm.ClassFile.FieldType.int), Jvm.Cond.code ({ cls := "java/lang/StringUTF16", name := "coderFromArrayLen", desc := "([BI)B" } : Jvm.MethodName) jdk_52_method_15_code (2 : Nat) (Option.some Jvm.ClassFile.FieldType.byte), Jvm.Cond.code ({ cls := "com/example/tidewire/tidewire/rpc/ProviderAddress", name := "of", desc := "(Ljava/lang/String;I)Lcom/example/tidewire/tidewire/rpc/ProviderAddress;" } : Jvm.MethodName) prog_29_method_2_code (2 : Nat) (Option.some (Jvm.ClassFile.FieldType.object "com/example/tidewire/tidewire/rpc/ProviderAddress")), Jvm.Cond.code ({ cls := "com/example/tidewire/tidewire/rpc/ProviderAddress", name := "<init>", desc := "(Ljava/lang/String;IIIJ)V" } : Jvm.MethodName) prog_29_method_1_code (7 : Nat) (Option.none : Option Jvm.ClassFile.FieldType), Jvm.Cond.code ({ cls := "java/lang/Record", name := "<init>", desc := "()V" } : Jvm.MethodName) jdk_30_method_1_code (1 : Nat) (Option.none : Option Jvm.ClassFile.FieldType), Jvm.Cond.code ({ cls := "com/example/tidewire/tidewire/rpc/ProviderAddress", name := "host", desc := "()Ljava/lang/String;" } : Jvm.MethodName) prog_29_method_13_code (1 : Nat) (Option.some (Jvm.ClassFile.FieldType.object "java/lang/String")), Jvm.Cond.code ({ cls := "java/lang/String", name := "equals", desc := "(Ljava/lang/Object;)Z" } : Jvm.MethodName) jdk_42_method_66_code (3 : Nat) (Option.some Jvm.ClassFile.FieldType.boolean), Jvm.Cond.code ({ cls := "com/example/tidewire/tidewire/rpc/ProviderAddress", name := "port", desc := "()I" } : Jvm.MethodName) prog_29_method_14_code (1 : Nat) (Option.some Jvm.ClassFile.FieldType.int), Jvm.Cond.code ({ cls := "com/example/tidewire/tidewire/rpc/ProviderAddress", name := "weight", desc := "()I" } : Jvm.MethodName) prog_29_method_15_code (1 : Nat) (Option.some Jvm.ClassFile.FieldType.int), Jvm.Cond.code ({ cls := "com/example/tidewire/tidewire/rpc/ProviderAddress", name := "warmupMillis", desc := "()I" } : Jvm.MethodName) prog_29_method_16_code (1 : Nat) (Option.some Jvm.ClassFile.FieldType.int), Jvm.Cond.code ({ cls := "com/example/tidewire/tidewire/rpc/ProviderAddress", name := "startMillis", desc := "()J" } : Jvm.MethodName) prog_29_method_17_code (1 : Nat) (Option.some Jvm.ClassFile.FieldType.long), Jvm.Cond.code ({ cls := "com/example/tidewire/tidewire/rpc/ProviderAddress", name := "weightAt", desc := "(J)I" } : Jvm.MethodName) prog_29_method_6_code (5 : Nat) (Option.some Jvm.ClassFile.FieldType.int), Jvm.Cond.code ({ cls := "java/lang/Math", name := "max", desc := "(JJ)J" } : Jvm.MethodName) jdk_29_method_66_code (4 : Nat) (Option.some Jvm.ClassFile.FieldType.long)]
set_option maxRecDepth 65536 in
theorem codes_eq : words1.filter isCode = codes1 := rfl
theorem w_codes : ∀ c ∈ words1.filter isCode, c.before args0 about1 = true := by
  rw [codes_eq]
  intro c hc
  simp only [codes1, List.mem_cons, List.not_mem_nil, or_false] at hc
  rcases hc with rfl | rfl | rfl | rfl | rfl | rfl | rfl | rfl | rfl | rfl | rfl | rfl | rfl | rfl | rfl | rfl | rfl | rfl | rfl
  · exact w_c0
  · exact w_c1
  · exact w_c2
  · exact w_c3
  · exact w_c4
  · exact w_c5
  · exact w_c6
  · exact w_c7
  · exact w_c8
  · exact w_c9
  · exact w_c10
  · exact w_c11
  · exact w_c12
  · exact w_c13
  · exact w_c14
  · exact w_c15
  · exact w_c16
  · exact w_c17
  · exact w_c18
set_option maxRecDepth 65536 in
theorem w_t1 : (words1.take 24).all (fun c => isCode c || c.before args0 about1) = true := by decide +kernel
set_option maxRecDepth 65536 in
theorem w_t2 : ((words1.drop 24).take 24).all (fun c => isCode c || c.before args0 about1) = true := by decide +kernel
set_option maxRecDepth 65536 in
theorem w_t3 : (((words1.drop 24).drop 24).take 24).all (fun c => isCode c || c.before args0 about1) = true := by decide +kernel
set_option maxRecDepth 65536 in
theorem w_t4 : ((((words1.drop 24).drop 24).drop 24).take 24).all (fun c => isCode c || c.before args0 about1) = true := by decide +kernel
set_option maxRecDepth 65536 in
theorem w_t5 : ((((words1.drop 24).drop 24).drop 24).drop 24).all (fun c => isCode c || c.before args0 about1) = true := by decide +kernel
theorem w_tables : (allAtoms (Jvm.Cond.code x code maxLocals ret :: tables_1)).before args0 about1 = true := by
  rw [allAtoms_all]
  show words1.all (fun c => c.before args0 about1) = true
  refine all_split ?_ w_codes
  rw [← List.take_append_drop 24 words1, List.all_append, w_t1, ← List.take_append_drop 24 (words1.drop 24), List.all_append, w_t2, ← List.take_append_drop 24 ((words1.drop 24).drop 24), List.all_append, w_t3, ← List.take_append_drop 24 (((words1.drop 24).drop 24).drop 24), List.all_append, w_t4, w_t5]
  rfl
set_option maxRecDepth 65536 in
theorem w_rest : rest_1_c.before args0 about1 = true := by decide +kernel
set_option maxRecDepth 65536 in
theorem w_case : (Jvm.Cond.and given_1 narrow_1).before args0 about1 = true := by decide +kernel
set_option maxRecDepth 65536 in
theorem w_consts : constsHeld consts_1 about1 := Jvm.Lit.constsHeldB_iff.mp (by decide +kernel)
theorem w_applies : (headSpec (Jvm.Cond.code x code maxLocals ret :: tables_1) room_1).applies x e0.platform about1 = true :=
  (Spec.applies_iff w_frames).mpr ⟨w_running, w_runnable, w_alone, w_named, w_hears, w_ripe, w_room, w_tables⟩
theorem atStart : AtStart classFile x code maxLocals ret World_1 tables_1 room_1 Calls_1 rest_1 Pre_1 launch0 p0 e0 about1 theMethod args0 below0 :=
  ⟨lists_1, trivial, launch0.admits_env _ _ _, launch0.least_env, fairChoices_fair.cas, fairChoices_fair.clock, w_frames, w_args, w_heap, w_applies, ⟨w_consts, trivial⟩, w_rest, w_case⟩
end start1
theorem witness_1 : WitnessClaimed_1 := ⟨start1.p0, start1.e0, start1.about1, start1.theMethod, start1.args0, start1.below0, start1.atStart⟩
end Jvm.Pilot.@@N@@
